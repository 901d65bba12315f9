import JvmDerived
import JvmDerived.Pilot.@@N@@Statement
import JvmDerived.Pilot.@@N@@Code
set_option linter.unusedVariables false
set_option linter.unusedSimpArgs false
namespace Jvm.RoadKit
open Sem ClassFile Op Lib Jvm.Stand Jvm.Free Jvm.LawKit
section New
variable {p : Program} {l : Launch} {e : Env} {R : Room} {s : State} {m : MethodId} {args : Array Value} {below : List Frame} {meth : Method} {c : Code} {T : State} {locs : List Loc} {cells slots : Nat}
theorem retI (X : Stand p l e R s m args below meth c T locs cells slots) (hx : p.tables.exec = Jvm.exec) {pc : Nat} {Ls : Array Slot} {z : Int32} {rest : List Value} (hret : meth.sig.returnType = some .int) (hd : decode c.code pc = .ok (.ireturn, 1)) {fs : List Frame}
    (hl : ∀ (f : JFrame) (acts : List Action), f.method = m → f.locked = none → f.entered = [] → (doReturn e (T.setTop f) acts (some (.int z))).1 = T.setFrames fs) : Steps p.tables e below (T.setTop (mkF m pc Ls (.int z :: rest))) (T.setFrames fs) := by
  have hm' : T.vm.method? m = some meth := X.method'
  have hn : narrow .int (.int z) = .int z := rfl
  show Steps p.tables e below (T.setTop { method := m, pc := pc, locals := Ls, stack := _ :: rest, locked := none }) _
  jvm_step X.here [X.here.top, hx, hd, hm', hret, hn]
  first | (intro acts; rw [hl _ acts rfl rfl rfl]) | rw [hl _ _ rfl rfl rfl]
  exact Steps.refl _
end New
end Jvm.RoadKit
namespace Jvm.Pilot.@@N@@
open Jvm Jvm.ClassFile Sem Op Lib Jvm.Free Jvm.Stand Jvm.LawKit Jvm.RoadKit Bundle Jvm.Pilot.@@N@@.Jvm.D
theorem own_eqI {args : Array Value} {s : State} {t : Term} {k : Int32} (h : (Jvm.Cond.eq t (.int k)).value args s none s [] = some true) : t.eval args s none [] s = some (.int k) := by
  obtain ⟨x, y, hx, hy, -, k2⟩ := cmp_v (Or.inl h)
  obtain rfl : y = .int k := (Option.some.inj ((Term.int_eval k).symm.trans hy)).symm
  obtain ⟨z, rfl⟩ := k2
  have := gotT (Cond.eq_ints hx (Term.int_eval k)) h
  rw [hx, this]
def Q0 (n0 : Nat) (v : Option Value) (L : List Loc) : Prop := v = some (.int 1) ∧ Fr n0 L
theorem own_mod12 (x : Int32) : ((x &&& (2147483647 : Int32)) % (12 : Int32)) = (0 : Int32) ∨ ((x &&& (2147483647 : Int32)) % (12 : Int32)) = (1 : Int32) ∨ ((x &&& (2147483647 : Int32)) % (12 : Int32)) = (2 : Int32) ∨ ((x &&& (2147483647 : Int32)) % (12 : Int32)) = (3 : Int32) ∨ ((x &&& (2147483647 : Int32)) % (12 : Int32)) = (4 : Int32) ∨ ((x &&& (2147483647 : Int32)) % (12 : Int32)) = (5 : Int32) ∨ ((x &&& (2147483647 : Int32)) % (12 : Int32)) = (6 : Int32) ∨ ((x &&& (2147483647 : Int32)) % (12 : Int32)) = (7 : Int32) ∨ ((x &&& (2147483647 : Int32)) % (12 : Int32)) = (8 : Int32) ∨ ((x &&& (2147483647 : Int32)) % (12 : Int32)) = (9 : Int32) ∨ ((x &&& (2147483647 : Int32)) % (12 : Int32)) = (10 : Int32) ∨ ((x &&& (2147483647 : Int32)) % (12 : Int32)) = (11 : Int32) := by
  have e1 := c_mask x 2147483647 31 (by decide) (by decide)
  have e2 := (c_irem (x &&& (2147483647 : Int32)) (12 : Int32) 12 (by decide)).1 (by omega)
  generalize ((x &&& (2147483647 : Int32)) % (12 : Int32)) = r at *
  have hd : r.toInt = 0 ∨ r.toInt = 1 ∨ r.toInt = 2 ∨ r.toInt = 3 ∨ r.toInt = 4 ∨ r.toInt = 5 ∨ r.toInt = 6 ∨ r.toInt = 7 ∨ r.toInt = 8 ∨ r.toInt = 9 ∨ r.toInt = 10 ∨ r.toInt = 11 := by omega
  rcases hd with h | h | h | h | h | h | h | h | h | h | h | h
  · exact Or.inl (Int32.toInt_inj.mp (h.trans (by decide)))
  · exact Or.inr (Or.inl (Int32.toInt_inj.mp (h.trans (by decide))))
  · exact Or.inr (Or.inr (Or.inl (Int32.toInt_inj.mp (h.trans (by decide)))))
  · exact Or.inr (Or.inr (Or.inr (Or.inl (Int32.toInt_inj.mp (h.trans (by decide))))))
  · exact Or.inr (Or.inr (Or.inr (Or.inr (Or.inl (Int32.toInt_inj.mp (h.trans (by decide)))))))
  · exact Or.inr (Or.inr (Or.inr (Or.inr (Or.inr (Or.inl (Int32.toInt_inj.mp (h.trans (by decide))))))))
  · exact Or.inr (Or.inr (Or.inr (Or.inr (Or.inr (Or.inr (Or.inl (Int32.toInt_inj.mp (h.trans (by decide)))))))))
  · exact Or.inr (Or.inr (Or.inr (Or.inr (Or.inr (Or.inr (Or.inr (Or.inl (Int32.toInt_inj.mp (h.trans (by decide))))))))))
  · exact Or.inr (Or.inr (Or.inr (Or.inr (Or.inr (Or.inr (Or.inr (Or.inr (Or.inl (Int32.toInt_inj.mp (h.trans (by decide)))))))))))
  · exact Or.inr (Or.inr (Or.inr (Or.inr (Or.inr (Or.inr (Or.inr (Or.inr (Or.inr (Or.inl (Int32.toInt_inj.mp (h.trans (by decide))))))))))))
  · exact Or.inr (Or.inr (Or.inr (Or.inr (Or.inr (Or.inr (Or.inr (Or.inr (Or.inr (Or.inr (Or.inl (Int32.toInt_inj.mp (h.trans (by decide)))))))))))))
  · exact Or.inr (Or.inr (Or.inr (Or.inr (Or.inr (Or.inr (Or.inr (Or.inr (Or.inr (Or.inr (Or.inr (Int32.toInt_inj.mp (h.trans (by decide)))))))))))))
theorem wd0 {a0 : Array Value} {Z : State} (hw : ∀ d ∈ tables_1, d.before a0 Z = true) : (Jvm.Cond.classLink "com/example/tarcal/tarcal/schedules/BasisPerPeriodPinLaw" (7 : Nat) "com/example/tarcal/tarcal/schedules/Basis").before a0 Z = true := hw _ (List.mem_of_getElem? (i := 0) rfl)
theorem wd1 {a0 : Array Value} {Z : State} (hw : ∀ d ∈ tables_1, d.before a0 Z = true) : (Jvm.Cond.arrayOver (Jvm.ClassFile.FieldType.object "com/example/tarcal/tarcal/schedules/Basis")).before a0 Z = true := hw _ (List.mem_of_getElem? (i := 1) rfl)
theorem wd2 {a0 : Array Value} {Z : State} (hw : ∀ d ∈ tables_1, d.before a0 Z = true) : (Jvm.Cond.fieldLink "com/example/tarcal/tarcal/schedules/BasisPerPeriodPinLaw" (9 : Nat) "com/example/tarcal/tarcal/schedules/Basis" "DAYS" "Lcom/example/tarcal/tarcal/schedules/Basis;").before a0 Z = true := hw _ (List.mem_of_getElem? (i := 2) rfl)
theorem wd3 {a0 : Array Value} {Z : State} (hw : ∀ d ∈ tables_1, d.before a0 Z = true) : (Jvm.Cond.initialized "com/example/tarcal/tarcal/schedules/Basis").before a0 Z = true := hw _ (List.mem_of_getElem? (i := 3) rfl)
theorem wd4 {a0 : Array Value} {Z : State} (hw : ∀ d ∈ tables_1, d.before a0 Z = true) : (Jvm.Cond.laysStatic "com/example/tarcal/tarcal/schedules/Basis" "DAYS" "Lcom/example/tarcal/tarcal/schedules/Basis;").before a0 Z = true := hw _ (List.mem_of_getElem? (i := 4) rfl)
theorem wd6 {a0 : Array Value} {Z : State} (hw : ∀ d ∈ tables_1, d.before a0 Z = true) : (Jvm.Cond.fieldLink "com/example/tarcal/tarcal/schedules/BasisPerPeriodPinLaw" (13 : Nat) "com/example/tarcal/tarcal/schedules/Basis" "ENERGY" "Lcom/example/tarcal/tarcal/schedules/Basis;").before a0 Z = true := hw _ (List.mem_of_getElem? (i := 6) rfl)
theorem wd7 {a0 : Array Value} {Z : State} (hw : ∀ d ∈ tables_1, d.before a0 Z = true) : (Jvm.Cond.laysStatic "com/example/tarcal/tarcal/schedules/Basis" "ENERGY" "Lcom/example/tarcal/tarcal/schedules/Basis;").before a0 Z = true := hw _ (List.mem_of_getElem? (i := 7) rfl)
theorem wd8 {a0 : Array Value} {Z : State} (hw : ∀ d ∈ tables_1, d.before a0 Z = true) : (Jvm.Cond.fieldLink "com/example/tarcal/tarcal/schedules/BasisPerPeriodPinLaw" (16 : Nat) "com/example/tarcal/tarcal/schedules/Basis" "ON_PEAK_ENERGY" "Lcom/example/tarcal/tarcal/schedules/Basis;").before a0 Z = true := hw _ (List.mem_of_getElem? (i := 8) rfl)
theorem wd9 {a0 : Array Value} {Z : State} (hw : ∀ d ∈ tables_1, d.before a0 Z = true) : (Jvm.Cond.laysStatic "com/example/tarcal/tarcal/schedules/Basis" "ON_PEAK_ENERGY" "Lcom/example/tarcal/tarcal/schedules/Basis;").before a0 Z = true := hw _ (List.mem_of_getElem? (i := 9) rfl)
theorem wd10 {a0 : Array Value} {Z : State} (hw : ∀ d ∈ tables_1, d.before a0 Z = true) : (Jvm.Cond.fieldLink "com/example/tarcal/tarcal/schedules/BasisPerPeriodPinLaw" (19 : Nat) "com/example/tarcal/tarcal/schedules/Basis" "OFF_PEAK_ENERGY" "Lcom/example/tarcal/tarcal/schedules/Basis;").before a0 Z = true := hw _ (List.mem_of_getElem? (i := 10) rfl)
theorem wd11 {a0 : Array Value} {Z : State} (hw : ∀ d ∈ tables_1, d.before a0 Z = true) : (Jvm.Cond.laysStatic "com/example/tarcal/tarcal/schedules/Basis" "OFF_PEAK_ENERGY" "Lcom/example/tarcal/tarcal/schedules/Basis;").before a0 Z = true := hw _ (List.mem_of_getElem? (i := 11) rfl)
theorem wd12 {a0 : Array Value} {Z : State} (hw : ∀ d ∈ tables_1, d.before a0 Z = true) : (Jvm.Cond.fieldLink "com/example/tarcal/tarcal/schedules/BasisPerPeriodPinLaw" (22 : Nat) "com/example/tarcal/tarcal/schedules/Basis" "BILLING_DEMAND_DAYS" "Lcom/example/tarcal/tarcal/schedules/Basis;").before a0 Z = true := hw _ (List.mem_of_getElem? (i := 12) rfl)
theorem wd13 {a0 : Array Value} {Z : State} (hw : ∀ d ∈ tables_1, d.before a0 Z = true) : (Jvm.Cond.laysStatic "com/example/tarcal/tarcal/schedules/Basis" "BILLING_DEMAND_DAYS" "Lcom/example/tarcal/tarcal/schedules/Basis;").before a0 Z = true := hw _ (List.mem_of_getElem? (i := 13) rfl)
theorem wd14 {a0 : Array Value} {Z : State} (hw : ∀ d ∈ tables_1, d.before a0 Z = true) : (Jvm.Cond.fieldLink "com/example/tarcal/tarcal/schedules/BasisPerPeriodPinLaw" (25 : Nat) "com/example/tarcal/tarcal/schedules/Basis" "METERED_DEMAND_DAYS" "Lcom/example/tarcal/tarcal/schedules/Basis;").before a0 Z = true := hw _ (List.mem_of_getElem? (i := 14) rfl)
theorem wd15 {a0 : Array Value} {Z : State} (hw : ∀ d ∈ tables_1, d.before a0 Z = true) : (Jvm.Cond.laysStatic "com/example/tarcal/tarcal/schedules/Basis" "METERED_DEMAND_DAYS" "Lcom/example/tarcal/tarcal/schedules/Basis;").before a0 Z = true := hw _ (List.mem_of_getElem? (i := 15) rfl)
theorem wd16 {a0 : Array Value} {Z : State} (hw : ∀ d ∈ tables_1, d.before a0 Z = true) : (Jvm.Cond.fieldLink "com/example/tarcal/tarcal/schedules/BasisPerPeriodPinLaw" (28 : Nat) "com/example/tarcal/tarcal/schedules/Basis" "FIXTURE_DAYS" "Lcom/example/tarcal/tarcal/schedules/Basis;").before a0 Z = true := hw _ (List.mem_of_getElem? (i := 16) rfl)
theorem wd17 {a0 : Array Value} {Z : State} (hw : ∀ d ∈ tables_1, d.before a0 Z = true) : (Jvm.Cond.laysStatic "com/example/tarcal/tarcal/schedules/Basis" "FIXTURE_DAYS" "Lcom/example/tarcal/tarcal/schedules/Basis;").before a0 Z = true := hw _ (List.mem_of_getElem? (i := 17) rfl)
theorem wd18 {a0 : Array Value} {Z : State} (hw : ∀ d ∈ tables_1, d.before a0 Z = true) : (Jvm.Cond.fieldLink "com/example/tarcal/tarcal/schedules/BasisPerPeriodPinLaw" (31 : Nat) "com/example/tarcal/tarcal/schedules/Basis" "HIGHEST_HOUR_ENERGY" "Lcom/example/tarcal/tarcal/schedules/Basis;").before a0 Z = true := hw _ (List.mem_of_getElem? (i := 18) rfl)
theorem wd19 {a0 : Array Value} {Z : State} (hw : ∀ d ∈ tables_1, d.before a0 Z = true) : (Jvm.Cond.laysStatic "com/example/tarcal/tarcal/schedules/Basis" "HIGHEST_HOUR_ENERGY" "Lcom/example/tarcal/tarcal/schedules/Basis;").before a0 Z = true := hw _ (List.mem_of_getElem? (i := 19) rfl)
theorem wd20 {a0 : Array Value} {Z : State} (hw : ∀ d ∈ tables_1, d.before a0 Z = true) : (Jvm.Cond.fieldLink "com/example/tarcal/tarcal/schedules/BasisPerPeriodPinLaw" (34 : Nat) "com/example/tarcal/tarcal/schedules/Basis" "GAS_INDEXED_ENERGY" "Lcom/example/tarcal/tarcal/schedules/Basis;").before a0 Z = true := hw _ (List.mem_of_getElem? (i := 20) rfl)
theorem wd21 {a0 : Array Value} {Z : State} (hw : ∀ d ∈ tables_1, d.before a0 Z = true) : (Jvm.Cond.laysStatic "com/example/tarcal/tarcal/schedules/Basis" "GAS_INDEXED_ENERGY" "Lcom/example/tarcal/tarcal/schedules/Basis;").before a0 Z = true := hw _ (List.mem_of_getElem? (i := 21) rfl)
theorem wd22 {a0 : Array Value} {Z : State} (hw : ∀ d ∈ tables_1, d.before a0 Z = true) : (Jvm.Cond.fieldLink "com/example/tarcal/tarcal/schedules/BasisPerPeriodPinLaw" (37 : Nat) "com/example/tarcal/tarcal/schedules/Basis" "POOL_PRICED_ENERGY" "Lcom/example/tarcal/tarcal/schedules/Basis;").before a0 Z = true := hw _ (List.mem_of_getElem? (i := 22) rfl)
theorem wd23 {a0 : Array Value} {Z : State} (hw : ∀ d ∈ tables_1, d.before a0 Z = true) : (Jvm.Cond.laysStatic "com/example/tarcal/tarcal/schedules/Basis" "POOL_PRICED_ENERGY" "Lcom/example/tarcal/tarcal/schedules/Basis;").before a0 Z = true := hw _ (List.mem_of_getElem? (i := 23) rfl)
theorem wd24 {a0 : Array Value} {Z : State} (hw : ∀ d ∈ tables_1, d.before a0 Z = true) : (Jvm.Cond.fieldLink "com/example/tarcal/tarcal/schedules/BasisPerPeriodPinLaw" (40 : Nat) "com/example/tarcal/tarcal/schedules/Basis" "ISO_COSTS" "Lcom/example/tarcal/tarcal/schedules/Basis;").before a0 Z = true := hw _ (List.mem_of_getElem? (i := 24) rfl)
theorem wd25 {a0 : Array Value} {Z : State} (hw : ∀ d ∈ tables_1, d.before a0 Z = true) : (Jvm.Cond.laysStatic "com/example/tarcal/tarcal/schedules/Basis" "ISO_COSTS" "Lcom/example/tarcal/tarcal/schedules/Basis;").before a0 Z = true := hw _ (List.mem_of_getElem? (i := 25) rfl)
theorem wd26 {a0 : Array Value} {Z : State} (hw : ∀ d ∈ tables_1, d.before a0 Z = true) : (Jvm.Cond.fieldLink "com/example/tarcal/tarcal/schedules/BasisPerPeriodPinLaw" (43 : Nat) "com/example/tarcal/tarcal/schedules/Basis" "DISTRIBUTION_ACCESS_CHARGES" "Lcom/example/tarcal/tarcal/schedules/Basis;").before a0 Z = true := hw _ (List.mem_of_getElem? (i := 26) rfl)
theorem wd27 {a0 : Array Value} {Z : State} (hw : ∀ d ∈ tables_1, d.before a0 Z = true) : (Jvm.Cond.laysStatic "com/example/tarcal/tarcal/schedules/Basis" "DISTRIBUTION_ACCESS_CHARGES" "Lcom/example/tarcal/tarcal/schedules/Basis;").before a0 Z = true := hw _ (List.mem_of_getElem? (i := 27) rfl)
theorem wd28 {a0 : Array Value} {Z : State} (hw : ∀ d ∈ tables_1, d.before a0 Z = true) : (Jvm.Cond.constant "com/example/tarcal/tarcal/schedules/BasisPerPeriodPinLaw" (46 : Nat) (2147483647 : Int32)).before a0 Z = true := hw _ (List.mem_of_getElem? (i := 28) rfl)
theorem wd29 {a0 : Array Value} {Z : State} (hw : ∀ d ∈ tables_1, d.before a0 Z = true) : (Jvm.Cond.methodLink "com/example/tarcal/tarcal/schedules/BasisPerPeriodPinLaw" (47 : Nat) ({ cls := "com/example/tarcal/tarcal/schedules/Basis", name := "perPeriod", desc := "()Z" } : Jvm.MethodName)).before a0 Z = true := hw _ (List.mem_of_getElem? (i := 29) rfl)
theorem wd30 {a0 : Array Value} {Z : State} (hw : ∀ d ∈ tables_1, d.before a0 Z = true) : (Jvm.Cond.declares ({ cls := "com/example/tarcal/tarcal/schedules/Basis", name := "perPeriod", desc := "()Z" } : Jvm.MethodName)).before a0 Z = true := hw _ (List.mem_of_getElem? (i := 30) rfl)
theorem wd31 {a0 : Array Value} {Z : State} (hw : ∀ d ∈ tables_1, d.before a0 Z = true) : (Jvm.Cond.instanceMethod ({ cls := "com/example/tarcal/tarcal/schedules/Basis", name := "perPeriod", desc := "()Z" } : Jvm.MethodName)).before a0 Z = true := hw _ (List.mem_of_getElem? (i := 31) rfl)
theorem wd32 {a0 : Array Value} {Z : State} (hw : ∀ d ∈ tables_1, d.before a0 Z = true) : (Jvm.Cond.selects "com/example/tarcal/tarcal/schedules/Basis" ({ cls := "com/example/tarcal/tarcal/schedules/Basis", name := "perPeriod", desc := "()Z" } : Jvm.MethodName) ({ cls := "com/example/tarcal/tarcal/schedules/Basis", name := "perPeriod", desc := "()Z" } : Jvm.MethodName)).before a0 Z = true := hw _ (List.mem_of_getElem? (i := 32) rfl)
theorem wd33 {a0 : Array Value} {Z : State} (hw : ∀ d ∈ tables_1, d.before a0 Z = true) : (Jvm.Cond.code ({ cls := "com/example/tarcal/tarcal/schedules/Basis", name := "perPeriod", desc := "()Z" } : Jvm.MethodName) prog_21_method_9_code (1 : Nat) (Option.some Jvm.ClassFile.FieldType.boolean)).before a0 Z = true := hw _ (List.mem_of_getElem? (i := 33) rfl)
theorem wd34 {a0 : Array Value} {Z : State} (hw : ∀ d ∈ tables_1, d.before a0 Z = true) : (Jvm.Cond.fieldLink "com/example/tarcal/tarcal/schedules/Basis" (25 : Nat) "com/example/tarcal/tarcal/schedules/Basis" "HIGHEST_HOUR_ENERGY" "Lcom/example/tarcal/tarcal/schedules/Basis;").before a0 Z = true := hw _ (List.mem_of_getElem? (i := 34) rfl)
theorem wd35 {a0 : Array Value} {Z : State} (hw : ∀ d ∈ tables_1, d.before a0 Z = true) : (Jvm.Cond.fieldLink "com/example/tarcal/tarcal/schedules/Basis" (28 : Nat) "com/example/tarcal/tarcal/schedules/Basis" "GAS_INDEXED_ENERGY" "Lcom/example/tarcal/tarcal/schedules/Basis;").before a0 Z = true := hw _ (List.mem_of_getElem? (i := 35) rfl)
theorem wd36 {a0 : Array Value} {Z : State} (hw : ∀ d ∈ tables_1, d.before a0 Z = true) : (Jvm.Cond.fieldLink "com/example/tarcal/tarcal/schedules/Basis" (31 : Nat) "com/example/tarcal/tarcal/schedules/Basis" "POOL_PRICED_ENERGY" "Lcom/example/tarcal/tarcal/schedules/Basis;").before a0 Z = true := hw _ (List.mem_of_getElem? (i := 36) rfl)
theorem wd37 {a0 : Array Value} {Z : State} (hw : ∀ d ∈ tables_1, d.before a0 Z = true) : (Jvm.Cond.methodLink "com/example/tarcal/tarcal/schedules/BasisPerPeriodPinLaw" (51 : Nat) ({ cls := "com/example/tarcal/tarcal/schedules/Basis", name := "onDemand", desc := "()Z" } : Jvm.MethodName)).before a0 Z = true := hw _ (List.mem_of_getElem? (i := 37) rfl)
theorem wd38 {a0 : Array Value} {Z : State} (hw : ∀ d ∈ tables_1, d.before a0 Z = true) : (Jvm.Cond.declares ({ cls := "com/example/tarcal/tarcal/schedules/Basis", name := "onDemand", desc := "()Z" } : Jvm.MethodName)).before a0 Z = true := hw _ (List.mem_of_getElem? (i := 38) rfl)
theorem wd39 {a0 : Array Value} {Z : State} (hw : ∀ d ∈ tables_1, d.before a0 Z = true) : (Jvm.Cond.instanceMethod ({ cls := "com/example/tarcal/tarcal/schedules/Basis", name := "onDemand", desc := "()Z" } : Jvm.MethodName)).before a0 Z = true := hw _ (List.mem_of_getElem? (i := 39) rfl)
theorem wd40 {a0 : Array Value} {Z : State} (hw : ∀ d ∈ tables_1, d.before a0 Z = true) : (Jvm.Cond.selects "com/example/tarcal/tarcal/schedules/Basis" ({ cls := "com/example/tarcal/tarcal/schedules/Basis", name := "onDemand", desc := "()Z" } : Jvm.MethodName) ({ cls := "com/example/tarcal/tarcal/schedules/Basis", name := "onDemand", desc := "()Z" } : Jvm.MethodName)).before a0 Z = true := hw _ (List.mem_of_getElem? (i := 40) rfl)
theorem wd41 {a0 : Array Value} {Z : State} (hw : ∀ d ∈ tables_1, d.before a0 Z = true) : (Jvm.Cond.code ({ cls := "com/example/tarcal/tarcal/schedules/Basis", name := "onDemand", desc := "()Z" } : Jvm.MethodName) prog_21_method_6_code (1 : Nat) (Option.some Jvm.ClassFile.FieldType.boolean)).before a0 Z = true := hw _ (List.mem_of_getElem? (i := 41) rfl)
theorem wd42 {a0 : Array Value} {Z : State} (hw : ∀ d ∈ tables_1, d.before a0 Z = true) : (Jvm.Cond.fieldLink "com/example/tarcal/tarcal/schedules/Basis" (66 : Nat) "com/example/tarcal/tarcal/schedules/Basis" "onDemand" "Z").before a0 Z = true := hw _ (List.mem_of_getElem? (i := 42) rfl)
theorem wd44 {a0 : Array Value} {Z : State} (hw : ∀ d ∈ tables_1, d.before a0 Z = true) : (Jvm.Cond.methodLink "com/example/tarcal/tarcal/schedules/BasisPerPeriodPinLaw" (54 : Nat) ({ cls := "com/example/tarcal/tarcal/schedules/Basis", name := "byTimeOfUse", desc := "()Z" } : Jvm.MethodName)).before a0 Z = true := hw _ (List.mem_of_getElem? (i := 44) rfl)
theorem wd45 {a0 : Array Value} {Z : State} (hw : ∀ d ∈ tables_1, d.before a0 Z = true) : (Jvm.Cond.declares ({ cls := "com/example/tarcal/tarcal/schedules/Basis", name := "byTimeOfUse", desc := "()Z" } : Jvm.MethodName)).before a0 Z = true := hw _ (List.mem_of_getElem? (i := 45) rfl)
theorem wd46 {a0 : Array Value} {Z : State} (hw : ∀ d ∈ tables_1, d.before a0 Z = true) : (Jvm.Cond.instanceMethod ({ cls := "com/example/tarcal/tarcal/schedules/Basis", name := "byTimeOfUse", desc := "()Z" } : Jvm.MethodName)).before a0 Z = true := hw _ (List.mem_of_getElem? (i := 46) rfl)
theorem wd47 {a0 : Array Value} {Z : State} (hw : ∀ d ∈ tables_1, d.before a0 Z = true) : (Jvm.Cond.selects "com/example/tarcal/tarcal/schedules/Basis" ({ cls := "com/example/tarcal/tarcal/schedules/Basis", name := "byTimeOfUse", desc := "()Z" } : Jvm.MethodName) ({ cls := "com/example/tarcal/tarcal/schedules/Basis", name := "byTimeOfUse", desc := "()Z" } : Jvm.MethodName)).before a0 Z = true := hw _ (List.mem_of_getElem? (i := 47) rfl)
theorem wd48 {a0 : Array Value} {Z : State} (hw : ∀ d ∈ tables_1, d.before a0 Z = true) : (Jvm.Cond.code ({ cls := "com/example/tarcal/tarcal/schedules/Basis", name := "byTimeOfUse", desc := "()Z" } : Jvm.MethodName) prog_21_method_7_code (1 : Nat) (Option.some Jvm.ClassFile.FieldType.boolean)).before a0 Z = true := hw _ (List.mem_of_getElem? (i := 48) rfl)
theorem wd49 {a0 : Array Value} {Z : State} (hw : ∀ d ∈ tables_1, d.before a0 Z = true) : (Jvm.Cond.fieldLink "com/example/tarcal/tarcal/schedules/Basis" (70 : Nat) "com/example/tarcal/tarcal/schedules/Basis" "byTimeOfUse" "Z").before a0 Z = true := hw _ (List.mem_of_getElem? (i := 49) rfl)
theorem wd51 {a0 : Array Value} {Z : State} (hw : ∀ d ∈ tables_1, d.before a0 Z = true) : (Jvm.Cond.methodLink "com/example/tarcal/tarcal/schedules/BasisPerPeriodPinLaw" (57 : Nat) ({ cls := "com/example/tarcal/tarcal/schedules/Basis", name := "passedThrough", desc := "()Z" } : Jvm.MethodName)).before a0 Z = true := hw _ (List.mem_of_getElem? (i := 51) rfl)
theorem wd52 {a0 : Array Value} {Z : State} (hw : ∀ d ∈ tables_1, d.before a0 Z = true) : (Jvm.Cond.declares ({ cls := "com/example/tarcal/tarcal/schedules/Basis", name := "passedThrough", desc := "()Z" } : Jvm.MethodName)).before a0 Z = true := hw _ (List.mem_of_getElem? (i := 52) rfl)
theorem wd53 {a0 : Array Value} {Z : State} (hw : ∀ d ∈ tables_1, d.before a0 Z = true) : (Jvm.Cond.instanceMethod ({ cls := "com/example/tarcal/tarcal/schedules/Basis", name := "passedThrough", desc := "()Z" } : Jvm.MethodName)).before a0 Z = true := hw _ (List.mem_of_getElem? (i := 53) rfl)
theorem wd54 {a0 : Array Value} {Z : State} (hw : ∀ d ∈ tables_1, d.before a0 Z = true) : (Jvm.Cond.selects "com/example/tarcal/tarcal/schedules/Basis" ({ cls := "com/example/tarcal/tarcal/schedules/Basis", name := "passedThrough", desc := "()Z" } : Jvm.MethodName) ({ cls := "com/example/tarcal/tarcal/schedules/Basis", name := "passedThrough", desc := "()Z" } : Jvm.MethodName)).before a0 Z = true := hw _ (List.mem_of_getElem? (i := 54) rfl)
theorem wd55 {a0 : Array Value} {Z : State} (hw : ∀ d ∈ tables_1, d.before a0 Z = true) : (Jvm.Cond.code ({ cls := "com/example/tarcal/tarcal/schedules/Basis", name := "passedThrough", desc := "()Z" } : Jvm.MethodName) prog_21_method_8_code (1 : Nat) (Option.some Jvm.ClassFile.FieldType.boolean)).before a0 Z = true := hw _ (List.mem_of_getElem? (i := 55) rfl)
theorem wd56 {a0 : Array Value} {Z : State} (hw : ∀ d ∈ tables_1, d.before a0 Z = true) : (Jvm.Cond.fieldLink "com/example/tarcal/tarcal/schedules/Basis" (34 : Nat) "com/example/tarcal/tarcal/schedules/Basis" "ISO_COSTS" "Lcom/example/tarcal/tarcal/schedules/Basis;").before a0 Z = true := hw _ (List.mem_of_getElem? (i := 56) rfl)
theorem d1_0 : decode prog_21_method_9_code 0 = .ok (.aload_n 0, 1) := by decide +kernel
theorem d1_1 : decode prog_21_method_9_code 1 = .ok (.getstatic 25, 3) := by decide +kernel
theorem d1_4 : decode prog_21_method_9_code 4 = .ok (.if_acmp .eq 17, 3) := by decide +kernel
theorem d1_7 : decode prog_21_method_9_code 7 = .ok (.aload_n 0, 1) := by decide +kernel
theorem d1_8 : decode prog_21_method_9_code 8 = .ok (.getstatic 28, 3) := by decide +kernel
theorem d1_11 : decode prog_21_method_9_code 11 = .ok (.if_acmp .eq 10, 3) := by decide +kernel
theorem d1_14 : decode prog_21_method_9_code 14 = .ok (.aload_n 0, 1) := by decide +kernel
theorem d1_15 : decode prog_21_method_9_code 15 = .ok (.getstatic 31, 3) := by decide +kernel
theorem d1_18 : decode prog_21_method_9_code 18 = .ok (.if_acmp .ne 7, 3) := by decide +kernel
theorem d1_25 : decode prog_21_method_9_code 25 = .ok (.iconst 0, 1) := by decide +kernel
theorem d1_26 : decode prog_21_method_9_code 26 = .ok (.ireturn, 1) := by decide +kernel
theorem ef_1_0 (m : MethodId) (x0 : Addr) : entryFrame m #[(.ref x0)] 1 = mkF m 0 #[.val (.ref x0)] [] := by first | (simp [entryFrame, mkF, argsToLocals, Value.category]; done) | rfl
theorem pn_0 : plainName "com/example/tarcal/tarcal/schedules/Basis" = true := by first | (simp [plainName, overriddenIn]; done) | decide +kernel
def Q_rm1_0 (Z : State) (w1 : Addr) (w2 : Addr) (w4 : Addr) (w6 : Addr) (h0 : Heap) (n0 : Nat) (v : Option Value) (h : Heap) (L : List Loc) : Prop := v = some (.int (0 : Int32)) ∧ Fr n0 L ∧ h = h0
set_option maxRecDepth 65536 in
set_option maxHeartbeats 40000000 in
theorem rm1_0 (l : Launch) (Z : State) (a0 : Array Value) (hw : ∀ d ∈ tables_1, d.before a0 Z = true) (ws : List Jvm.Cond) (w1 : Addr) (w2 : Addr) (w4 : Addr) (w6 : Addr) (h0 : Heap) (n0 : Nat) (OL0 : Old Z n0 h0) (pr1 : Sta Z Z.heap "com/example/tarcal/tarcal/schedules/Basis" "HIGHEST_HOUR_ENERGY" "Lcom/example/tarcal/tarcal/schedules/Basis;" (.ref w2)) (pr2 : w1 ≠ w2) (pr3 : Sta Z Z.heap "com/example/tarcal/tarcal/schedules/Basis" "GAS_INDEXED_ENERGY" "Lcom/example/tarcal/tarcal/schedules/Basis;" (.ref w4)) (pr4 : w1 ≠ w4) (pr5 : Sta Z Z.heap "com/example/tarcal/tarcal/schedules/Basis" "POOL_PRICED_ENERGY" "Lcom/example/tarcal/tarcal/schedules/Basis;" (.ref w6)) (pr6 : w1 ≠ w6) :
    MetFree l (⟨"com/example/tarcal/tarcal/schedules/Basis", "perPeriod", "()Z"⟩ : MethodName) (head1 (Jvm.Cond.code (⟨"com/example/tarcal/tarcal/schedules/Basis", "perPeriod", "()Z"⟩ : MethodName) prog_21_method_9_code 1 (some .boolean) :: ws) ({ frames := 0, cells := 0, slots := 0, locals := 0 } : Room)) (fun a U => a = #[(.ref w1)] ∧ Z.Warmed39 U.vm ∧ U.heap = h0) (fun _ _ _ _ _ => True) (fun _ U o U' => ∃ v L, o = .returned v ∧ Q_rm1_0 Z w1 w2 w4 w6 h0 n0 v U'.heap L ∧ FrameEnd U o U' L ({ frames := 0, cells := 0, slots := 0, locals := 0 } : Room).cells ({ frames := 0, cells := 0, slots := 0, locals := 0 } : Room).slots) := by
  refine MetFree.of_bodySF (plainFor_of_name pn_0) hisR ?_
  intro p e s m args below meth c s₁ Bd hml0 hP hK
  obtain ⟨rfl, hZ, hh⟩ := hP
  have hx := Bd.exec
  have hby := Bd.bytes
  have hml : c.maxLocals = 1 := hml0
  have hown : s.vm.findClass "com/example/tarcal/tarcal/schedules/Basis" = some m.cls := findClass_of_methodNamed Bd.named
  have hnm := (name_of_methodNamed Bd.named Bd.method).1
  have X0 : Stand p l e ({ frames := 0, cells := 0, slots := 0, locals := 0 } : Room) s m #[(.ref w1)] below meth c s₁ [] 0 0 := Stand.of_body Bd
  have e0 : s₁.heap = h0 := by rw [← hh, Bd.state]; rfl
  have N0 := Fr.nil n0
  have pre0 : ∀ t, Steps p.tables e below (s₁.setTop (mkF m 0 #[.val (.ref w1)] [])) t → Steps p.tables e below (s₁.setTop (entryFrame m #[(.ref w1)] 1)) t := fun t k => castTop (ef_1_0 m w1) k
  obtain ⟨T3, X3, e3, st3⟩ := getS2 X0 hx hZ hown (host := "") (Or.inl (wd34 hw)) Via.refl e0 (pr1.ext OL0.2) (g := (mkF m 1 #[.val (.ref w1)] [(.ref w1)])) rfl (hb hby d1_1)
  obtain ⟨T5, X5, e5, st5⟩ := getS2 X3 hx hZ hown (host := "") (Or.inl (wd35 hw)) Via.refl e3 (pr3.ext OL0.2) (g := (mkF m 8 #[.val (.ref w1)] [(.ref w1)])) rfl (hb hby d1_8)
  obtain ⟨T7, X7, e7, st7⟩ := getS2 X5 hx hZ hown (host := "") (Or.inl (wd36 hw)) Via.refl e5 (pr5.ext OL0.2) (g := (mkF m 15 #[.val (.ref w1)] [(.ref w1)])) rfl (hb hby d1_15)
  obtain ⟨fs, hr, hrun, hended, hW, hsame⟩ := X7.leave (v := some (.int (0 : Int32))) (fun h => by rw [Bd.returns] at h; cases h)
  refine ⟨_, _, pre0 _ ?_, hrun, hended, _, _, rfl, ?_, ⟨_, rfl⟩, hW, hsame.mono (by decide) (by decide)⟩
  · show Steps p.tables e below (s₁.setTop (mkF m 0 #[.val (.ref w1)] [])) _
    refine XS.aloadN X0.here hx rfl (hb hby d1_0) rfl rfl ?_
    show Steps p.tables e below (s₁.setTop (mkF m 1 #[.val (.ref w1)] [(.ref w1)])) _
    refine st3 _ ?_
    show Steps p.tables e below (T3.setTop (mkF m 4 #[.val (.ref w1)] [(.ref w2), (.ref w1)])) _
    refine Jvm.RoadKit.acmp (g := (mkF m 4 #[.val (.ref w1)] [(.ref w2), (.ref w1)])) X3 hx rfl rfl rfl (pc0 := 4) (pc' := 7) (same := false) rfl (hb hby d1_4) rfl (decide_eq_false fun q => pr2 (Value.ref.inj q)) (by decide) (by decide) ?_
    show Steps p.tables e below (T3.setTop (mkF m 7 #[.val (.ref w1)] [])) _
    refine XS.aloadN X3.here hx rfl (hb hby d1_7) rfl rfl ?_
    show Steps p.tables e below (T3.setTop (mkF m 8 #[.val (.ref w1)] [(.ref w1)])) _
    refine st5 _ ?_
    show Steps p.tables e below (T5.setTop (mkF m 11 #[.val (.ref w1)] [(.ref w4), (.ref w1)])) _
    refine Jvm.RoadKit.acmp (g := (mkF m 11 #[.val (.ref w1)] [(.ref w4), (.ref w1)])) X5 hx rfl rfl rfl (pc0 := 11) (pc' := 14) (same := false) rfl (hb hby d1_11) rfl (decide_eq_false fun q => pr4 (Value.ref.inj q)) (by decide) (by decide) ?_
    show Steps p.tables e below (T5.setTop (mkF m 14 #[.val (.ref w1)] [])) _
    refine XS.aloadN X5.here hx rfl (hb hby d1_14) rfl rfl ?_
    show Steps p.tables e below (T5.setTop (mkF m 15 #[.val (.ref w1)] [(.ref w1)])) _
    refine st7 _ ?_
    show Steps p.tables e below (T7.setTop (mkF m 18 #[.val (.ref w1)] [(.ref w6), (.ref w1)])) _
    refine Jvm.RoadKit.acmp (g := (mkF m 18 #[.val (.ref w1)] [(.ref w6), (.ref w1)])) X7 hx rfl rfl rfl (pc0 := 18) (pc' := 25) (same := false) rfl (hb hby d1_18) rfl (decide_eq_false fun q => pr6 (Value.ref.inj q)) (by decide) (by decide) ?_
    show Steps p.tables e below (T7.setTop (mkF m 25 #[.val (.ref w1)] [])) _
    refine XS.iconst X7.here hx rfl (hb hby d1_25) ?_
    show Steps p.tables e below (T7.setTop (mkF m 26 #[.val (.ref w1)] [(.int (0 : Int32))])) _
    exact retN X7 hx (t := .boolean) Bd.returns (by simp) (hb hby d1_26) hr
  · show Q_rm1_0 Z w1 w2 w4 w6 h0 n0 _ T7.heap _
    rw [e7]
    exact ⟨rfl, N0, rfl⟩
theorem pd_0 : parseMethodDescriptor "()Z" = some ⟨[], some .boolean⟩ := by decide +kernel
theorem ef_0_1 (m : MethodId) (x0 : Int32) : entryFrame m #[(.int x0)] maxLocals = mkF m 0 #[.val (.int x0), .unset, .unset, .unset, .unset, .unset] [] := by first | (simp [entryFrame, mkF, argsToLocals, Value.category, maxLocals]; done) | rfl
theorem pn_1 : plainName "com/example/tarcal/tarcal/schedules/BasisPerPeriodPinLaw" = true := by first | (simp [plainName, overriddenIn]; done) | decide +kernel
set_option maxRecDepth 65536 in
set_option maxHeartbeats 40000000 in
theorem rm0_0 (l : Launch) (Z : State) (a0 : Array Value) (hw : ∀ d ∈ tables_1, d.before a0 Z = true) (ws : List Jvm.Cond) (p1 : Int32) (w_DAYS : Addr) (w_ENERGY : Addr) (w_ON_PEAK_ENERGY : Addr) (w_OFF_PEAK_ENERGY : Addr) (w_BILLING_DEMAND_DAYS : Addr) (w_METERED_DEMAND_DAYS : Addr) (w_FIXTURE_DAYS : Addr) (w_HIGHEST_HOUR_ENERGY : Addr) (w_GAS_INDEXED_ENERGY : Addr) (w_POOL_PRICED_ENERGY : Addr) (w_ISO_COSTS : Addr) (w_DISTRIBUTION_ACCESS_CHARGES : Addr) (h0 : Heap) (n0 : Nat) (OL0 : Old Z n0 h0) (pr1 : Sta Z Z.heap "com/example/tarcal/tarcal/schedules/Basis" "DAYS" "Lcom/example/tarcal/tarcal/schedules/Basis;" (.ref w_DAYS)) (pr2 : Exa Z Z.heap w_DAYS "com/example/tarcal/tarcal/schedules/Basis") (pr3 : Sta Z Z.heap "com/example/tarcal/tarcal/schedules/Basis" "ENERGY" "Lcom/example/tarcal/tarcal/schedules/Basis;" (.ref w_ENERGY)) (pr4 : Exa Z Z.heap w_ENERGY "com/example/tarcal/tarcal/schedules/Basis") (pr5 : Sta Z Z.heap "com/example/tarcal/tarcal/schedules/Basis" "ON_PEAK_ENERGY" "Lcom/example/tarcal/tarcal/schedules/Basis;" (.ref w_ON_PEAK_ENERGY)) (pr6 : Exa Z Z.heap w_ON_PEAK_ENERGY "com/example/tarcal/tarcal/schedules/Basis") (pr7 : Sta Z Z.heap "com/example/tarcal/tarcal/schedules/Basis" "OFF_PEAK_ENERGY" "Lcom/example/tarcal/tarcal/schedules/Basis;" (.ref w_OFF_PEAK_ENERGY)) (pr8 : Exa Z Z.heap w_OFF_PEAK_ENERGY "com/example/tarcal/tarcal/schedules/Basis") (pr9 : Sta Z Z.heap "com/example/tarcal/tarcal/schedules/Basis" "BILLING_DEMAND_DAYS" "Lcom/example/tarcal/tarcal/schedules/Basis;" (.ref w_BILLING_DEMAND_DAYS)) (pr10 : Exa Z Z.heap w_BILLING_DEMAND_DAYS "com/example/tarcal/tarcal/schedules/Basis") (pr11 : Sta Z Z.heap "com/example/tarcal/tarcal/schedules/Basis" "METERED_DEMAND_DAYS" "Lcom/example/tarcal/tarcal/schedules/Basis;" (.ref w_METERED_DEMAND_DAYS)) (pr12 : Exa Z Z.heap w_METERED_DEMAND_DAYS "com/example/tarcal/tarcal/schedules/Basis") (pr13 : Sta Z Z.heap "com/example/tarcal/tarcal/schedules/Basis" "FIXTURE_DAYS" "Lcom/example/tarcal/tarcal/schedules/Basis;" (.ref w_FIXTURE_DAYS)) (pr14 : Exa Z Z.heap w_FIXTURE_DAYS "com/example/tarcal/tarcal/schedules/Basis") (pr15 : Sta Z Z.heap "com/example/tarcal/tarcal/schedules/Basis" "HIGHEST_HOUR_ENERGY" "Lcom/example/tarcal/tarcal/schedules/Basis;" (.ref w_HIGHEST_HOUR_ENERGY)) (pr16 : Exa Z Z.heap w_HIGHEST_HOUR_ENERGY "com/example/tarcal/tarcal/schedules/Basis") (pr17 : Sta Z Z.heap "com/example/tarcal/tarcal/schedules/Basis" "GAS_INDEXED_ENERGY" "Lcom/example/tarcal/tarcal/schedules/Basis;" (.ref w_GAS_INDEXED_ENERGY)) (pr18 : Exa Z Z.heap w_GAS_INDEXED_ENERGY "com/example/tarcal/tarcal/schedules/Basis") (pr19 : Sta Z Z.heap "com/example/tarcal/tarcal/schedules/Basis" "POOL_PRICED_ENERGY" "Lcom/example/tarcal/tarcal/schedules/Basis;" (.ref w_POOL_PRICED_ENERGY)) (pr20 : Exa Z Z.heap w_POOL_PRICED_ENERGY "com/example/tarcal/tarcal/schedules/Basis") (pr21 : Sta Z Z.heap "com/example/tarcal/tarcal/schedules/Basis" "ISO_COSTS" "Lcom/example/tarcal/tarcal/schedules/Basis;" (.ref w_ISO_COSTS)) (pr22 : Exa Z Z.heap w_ISO_COSTS "com/example/tarcal/tarcal/schedules/Basis") (pr23 : Sta Z Z.heap "com/example/tarcal/tarcal/schedules/Basis" "DISTRIBUTION_ACCESS_CHARGES" "Lcom/example/tarcal/tarcal/schedules/Basis;" (.ref w_DISTRIBUTION_ACCESS_CHARGES)) (pr24 : Exa Z Z.heap w_DISTRIBUTION_ACCESS_CHARGES "com/example/tarcal/tarcal/schedules/Basis") (pr25 : ((p1 &&& (2147483647 : Int32)) % (12 : Int32)) = (0 : Int32)) (pr26 : w_DAYS ≠ w_HIGHEST_HOUR_ENERGY) (pr27 : w_DAYS ≠ w_GAS_INDEXED_ENERGY) (pr28 : w_DAYS ≠ w_POOL_PRICED_ENERGY) :
    MetFree l x (head1 (Jvm.Cond.code x code maxLocals ret :: ws) room_1) (fun a U => a = #[(.int p1)] ∧ Z.Warmed39 U.vm ∧ U.heap = h0) (fun _ _ _ _ _ => True) (fun _ U o U' => ∃ v L, o = .returned v ∧ Q0 n0 v L ∧ FrameEnd U o U' L 16 128) := by
  refine MetFree.of_bodySF (plainFor_of_name pn_1) hisR ?_
  intro p e s m args below meth c s₁ Bd hml0 hP hK
  obtain ⟨rfl, hZ, hh⟩ := hP
  have hx := Bd.exec
  have hby := Bd.bytes
  have hml : c.maxLocals = 6 := hml0
  have hown : s.vm.findClass "com/example/tarcal/tarcal/schedules/BasisPerPeriodPinLaw" = some m.cls := findClass_of_methodNamed Bd.named
  have hnm := (name_of_methodNamed Bd.named Bd.method).1
  have X0 : Stand p l e room_1 s m #[(.int p1)] below meth c s₁ [] 0 0 := Stand.of_body Bd
  have e0 : s₁.heap = h0 := by rw [← hh, Bd.state]; rfl
  have N0 := Fr.nil n0
  have pre0 : ∀ t, Steps p.tables e below (s₁.setTop (mkF m 0 #[.val (.int p1), .unset, .unset, .unset, .unset, .unset] [])) t → Steps p.tables e below (s₁.setTop (entryFrame m #[(.int p1)] maxLocals)) t := fun t k => castTop (ef_0_1 m p1) k
  obtain ⟨T1, h1, k1, X1, e1, E1, A1, O1, st1⟩ := newR X0 hx hZ hown (wd0 hw) (wd1 hw) e0 (g := (mkF m 2 #[.val (.int p1), .unset, .unset, .unset, .unset, .unset] [(.int (12 : Int32))])) rfl (hb hby at_2) rfl (by decide) (cap := 12) (by decide) (by decide) (by decide) (by decide)
  obtain ⟨b1, g1⟩ : ∃ z, z = h0.size := ⟨_, rfl⟩
  rw [← g1] at A1 st1
  have V1 : Arv Z h1 b1 k1 (.object "com/example/tarcal/tarcal/schedules/Basis") (12 : Int32) [.null, .null, .null, .null, .null, .null, .null, .null, .null, .null, .null, .null] .null := (Arv.new A1 (by decide)).pad (pad_rep [] .null 12)
  have g_b1 : n0 ≤ b1 := (Nat.le_trans (Nat.le_trans (Nat.le_of_eq OL0.1.symm) OL0.2.1) (Nat.le_of_eq g1.symm))
  have sz_b1 : h0.size ≤ b1 := (Nat.le_trans (Keep.refl h0 []).1 (Nat.le_of_eq g1.symm))
  have KK1 : Keep h0 h1 [] := (Keep.refl h0 []).ext E1
  have OL1 := OL0.ext E1
  obtain ⟨T2, X2, e2, st2⟩ := getS2 X1 hx hZ hown (host := "") (Or.inl (wd2 hw)) Via.refl e1 (pr1.ext OL1.2) (g := (mkF m 7 #[.val (.int p1), .unset, .unset, .unset, .unset, .unset] [(.int (0 : Int32)), (.ref b1), (.ref b1)])) rfl (hb hby at_7)
  obtain ⟨cl3, Ar3, q3, S3, M3, Hs3, G3⟩ := V1
  have hin3 : ¬ ((0 : Int32) < 0 ∨ cl3.slots.size ≤ ((0 : Int32)).toNatClampNeg) := inb_of S3 ⟨by decide, by decide⟩
  obtain ⟨T4, h4, X4, e4, W4, st4⟩ := stR X2 hx hZ e2 Ar3 (j := (0 : Int32)) hin3 rfl (Sto.ofV Ar3 q3 O1 (Ins.self (pr2.ext OL1.2))) (g := (mkF m 10 #[.val (.int p1), .unset, .unset, .unset, .unset, .unset] [(.ref w_DAYS), (.int (0 : Int32)), (.ref b1), (.ref b1)])) rfl rfl (hb hby at_10)
  have V4 : Arv Z h4 b1 k1 (.object "com/example/tarcal/tarcal/schedules/Basis") (12 : Int32) [(.ref w_DAYS), .null, .null, .null, .null, .null, .null, .null, .null, .null, .null, .null] .null := Arv.set Ar3 q3 S3 M3 Hs3 G3 rfl W4 0 rfl (Nat.le_of_ble_eq_true rfl)
  have KK4 : Keep h0 h4 [] := KK1.wr W4 (Or.inr sz_b1)
  have OL4 := OL1.wr W4 g_b1
  have N4 := Fr.snoc X4 N0 g_b1
  obtain ⟨T5, X5, e5, st5⟩ := getS2 X4 hx hZ hown (host := "") (Or.inl (wd6 hw)) Via.refl e4 (pr3.ext OL4.2) (g := (mkF m 13 #[.val (.int p1), .unset, .unset, .unset, .unset, .unset] [(.int (1 : Int32)), (.ref b1), (.ref b1)])) rfl (hb hby at_13)
  obtain ⟨cl6, Ar6, q6, S6, M6, Hs6, G6⟩ := V4
  have hin6 : ¬ ((1 : Int32) < 0 ∨ cl6.slots.size ≤ ((1 : Int32)).toNatClampNeg) := inb_of S6 ⟨by decide, by decide⟩
  obtain ⟨T7, h7, X7, e7, W7, st7⟩ := stR X5 hx hZ e5 Ar6 (j := (1 : Int32)) hin6 rfl (Sto.ofV Ar6 q6 O1 (Ins.self (pr4.ext OL4.2))) (g := (mkF m 16 #[.val (.int p1), .unset, .unset, .unset, .unset, .unset] [(.ref w_ENERGY), (.int (1 : Int32)), (.ref b1), (.ref b1)])) rfl rfl (hb hby at_16)
  have V7 : Arv Z h7 b1 k1 (.object "com/example/tarcal/tarcal/schedules/Basis") (12 : Int32) [(.ref w_DAYS), (.ref w_ENERGY), .null, .null, .null, .null, .null, .null, .null, .null, .null, .null] .null := Arv.set Ar6 q6 S6 M6 Hs6 G6 rfl W7 1 rfl (Nat.le_of_ble_eq_true rfl)
  have KK7 : Keep h0 h7 [] := KK4.wr W7 (Or.inr sz_b1)
  have OL7 := OL4.wr W7 g_b1
  have N7 := Fr.snoc X7 N4 g_b1
  obtain ⟨T8, X8, e8, st8⟩ := getS2 X7 hx hZ hown (host := "") (Or.inl (wd8 hw)) Via.refl e7 (pr5.ext OL7.2) (g := (mkF m 19 #[.val (.int p1), .unset, .unset, .unset, .unset, .unset] [(.int (2 : Int32)), (.ref b1), (.ref b1)])) rfl (hb hby at_19)
  obtain ⟨cl9, Ar9, q9, S9, M9, Hs9, G9⟩ := V7
  have hin9 : ¬ ((2 : Int32) < 0 ∨ cl9.slots.size ≤ ((2 : Int32)).toNatClampNeg) := inb_of S9 ⟨by decide, by decide⟩
  obtain ⟨T10, h10, X10, e10, W10, st10⟩ := stR X8 hx hZ e8 Ar9 (j := (2 : Int32)) hin9 rfl (Sto.ofV Ar9 q9 O1 (Ins.self (pr6.ext OL7.2))) (g := (mkF m 22 #[.val (.int p1), .unset, .unset, .unset, .unset, .unset] [(.ref w_ON_PEAK_ENERGY), (.int (2 : Int32)), (.ref b1), (.ref b1)])) rfl rfl (hb hby at_22)
  have V10 : Arv Z h10 b1 k1 (.object "com/example/tarcal/tarcal/schedules/Basis") (12 : Int32) [(.ref w_DAYS), (.ref w_ENERGY), (.ref w_ON_PEAK_ENERGY), .null, .null, .null, .null, .null, .null, .null, .null, .null] .null := Arv.set Ar9 q9 S9 M9 Hs9 G9 rfl W10 2 rfl (Nat.le_of_ble_eq_true rfl)
  have KK10 : Keep h0 h10 [] := KK7.wr W10 (Or.inr sz_b1)
  have OL10 := OL7.wr W10 g_b1
  have N10 := Fr.snoc X10 N7 g_b1
  obtain ⟨T11, X11, e11, st11⟩ := getS2 X10 hx hZ hown (host := "") (Or.inl (wd10 hw)) Via.refl e10 (pr7.ext OL10.2) (g := (mkF m 25 #[.val (.int p1), .unset, .unset, .unset, .unset, .unset] [(.int (3 : Int32)), (.ref b1), (.ref b1)])) rfl (hb hby at_25)
  obtain ⟨cl12, Ar12, q12, S12, M12, Hs12, G12⟩ := V10
  have hin12 : ¬ ((3 : Int32) < 0 ∨ cl12.slots.size ≤ ((3 : Int32)).toNatClampNeg) := inb_of S12 ⟨by decide, by decide⟩
  obtain ⟨T13, h13, X13, e13, W13, st13⟩ := stR X11 hx hZ e11 Ar12 (j := (3 : Int32)) hin12 rfl (Sto.ofV Ar12 q12 O1 (Ins.self (pr8.ext OL10.2))) (g := (mkF m 28 #[.val (.int p1), .unset, .unset, .unset, .unset, .unset] [(.ref w_OFF_PEAK_ENERGY), (.int (3 : Int32)), (.ref b1), (.ref b1)])) rfl rfl (hb hby at_28)
  have V13 : Arv Z h13 b1 k1 (.object "com/example/tarcal/tarcal/schedules/Basis") (12 : Int32) [(.ref w_DAYS), (.ref w_ENERGY), (.ref w_ON_PEAK_ENERGY), (.ref w_OFF_PEAK_ENERGY), .null, .null, .null, .null, .null, .null, .null, .null] .null := Arv.set Ar12 q12 S12 M12 Hs12 G12 rfl W13 3 rfl (Nat.le_of_ble_eq_true rfl)
  have KK13 : Keep h0 h13 [] := KK10.wr W13 (Or.inr sz_b1)
  have OL13 := OL10.wr W13 g_b1
  have N13 := Fr.snoc X13 N10 g_b1
  obtain ⟨T14, X14, e14, st14⟩ := getS2 X13 hx hZ hown (host := "") (Or.inl (wd12 hw)) Via.refl e13 (pr9.ext OL13.2) (g := (mkF m 31 #[.val (.int p1), .unset, .unset, .unset, .unset, .unset] [(.int (4 : Int32)), (.ref b1), (.ref b1)])) rfl (hb hby at_31)
  obtain ⟨cl15, Ar15, q15, S15, M15, Hs15, G15⟩ := V13
  have hin15 : ¬ ((4 : Int32) < 0 ∨ cl15.slots.size ≤ ((4 : Int32)).toNatClampNeg) := inb_of S15 ⟨by decide, by decide⟩
  obtain ⟨T16, h16, X16, e16, W16, st16⟩ := stR X14 hx hZ e14 Ar15 (j := (4 : Int32)) hin15 rfl (Sto.ofV Ar15 q15 O1 (Ins.self (pr10.ext OL13.2))) (g := (mkF m 34 #[.val (.int p1), .unset, .unset, .unset, .unset, .unset] [(.ref w_BILLING_DEMAND_DAYS), (.int (4 : Int32)), (.ref b1), (.ref b1)])) rfl rfl (hb hby at_34)
  have V16 : Arv Z h16 b1 k1 (.object "com/example/tarcal/tarcal/schedules/Basis") (12 : Int32) [(.ref w_DAYS), (.ref w_ENERGY), (.ref w_ON_PEAK_ENERGY), (.ref w_OFF_PEAK_ENERGY), (.ref w_BILLING_DEMAND_DAYS), .null, .null, .null, .null, .null, .null, .null] .null := Arv.set Ar15 q15 S15 M15 Hs15 G15 rfl W16 4 rfl (Nat.le_of_ble_eq_true rfl)
  have KK16 : Keep h0 h16 [] := KK13.wr W16 (Or.inr sz_b1)
  have OL16 := OL13.wr W16 g_b1
  have N16 := Fr.snoc X16 N13 g_b1
  obtain ⟨T17, X17, e17, st17⟩ := getS2 X16 hx hZ hown (host := "") (Or.inl (wd14 hw)) Via.refl e16 (pr11.ext OL16.2) (g := (mkF m 37 #[.val (.int p1), .unset, .unset, .unset, .unset, .unset] [(.int (5 : Int32)), (.ref b1), (.ref b1)])) rfl (hb hby at_37)
  obtain ⟨cl18, Ar18, q18, S18, M18, Hs18, G18⟩ := V16
  have hin18 : ¬ ((5 : Int32) < 0 ∨ cl18.slots.size ≤ ((5 : Int32)).toNatClampNeg) := inb_of S18 ⟨by decide, by decide⟩
  obtain ⟨T19, h19, X19, e19, W19, st19⟩ := stR X17 hx hZ e17 Ar18 (j := (5 : Int32)) hin18 rfl (Sto.ofV Ar18 q18 O1 (Ins.self (pr12.ext OL16.2))) (g := (mkF m 40 #[.val (.int p1), .unset, .unset, .unset, .unset, .unset] [(.ref w_METERED_DEMAND_DAYS), (.int (5 : Int32)), (.ref b1), (.ref b1)])) rfl rfl (hb hby at_40)
  have V19 : Arv Z h19 b1 k1 (.object "com/example/tarcal/tarcal/schedules/Basis") (12 : Int32) [(.ref w_DAYS), (.ref w_ENERGY), (.ref w_ON_PEAK_ENERGY), (.ref w_OFF_PEAK_ENERGY), (.ref w_BILLING_DEMAND_DAYS), (.ref w_METERED_DEMAND_DAYS), .null, .null, .null, .null, .null, .null] .null := Arv.set Ar18 q18 S18 M18 Hs18 G18 rfl W19 5 rfl (Nat.le_of_ble_eq_true rfl)
  have KK19 : Keep h0 h19 [] := KK16.wr W19 (Or.inr sz_b1)
  have OL19 := OL16.wr W19 g_b1
  have N19 := Fr.snoc X19 N16 g_b1
  obtain ⟨T20, X20, e20, st20⟩ := getS2 X19 hx hZ hown (host := "") (Or.inl (wd16 hw)) Via.refl e19 (pr13.ext OL19.2) (g := (mkF m 44 #[.val (.int p1), .unset, .unset, .unset, .unset, .unset] [(.int (6 : Int32)), (.ref b1), (.ref b1)])) rfl (hb hby at_44)
  obtain ⟨cl21, Ar21, q21, S21, M21, Hs21, G21⟩ := V19
  have hin21 : ¬ ((6 : Int32) < 0 ∨ cl21.slots.size ≤ ((6 : Int32)).toNatClampNeg) := inb_of S21 ⟨by decide, by decide⟩
  obtain ⟨T22, h22, X22, e22, W22, st22⟩ := stR X20 hx hZ e20 Ar21 (j := (6 : Int32)) hin21 rfl (Sto.ofV Ar21 q21 O1 (Ins.self (pr14.ext OL19.2))) (g := (mkF m 47 #[.val (.int p1), .unset, .unset, .unset, .unset, .unset] [(.ref w_FIXTURE_DAYS), (.int (6 : Int32)), (.ref b1), (.ref b1)])) rfl rfl (hb hby at_47)
  have V22 : Arv Z h22 b1 k1 (.object "com/example/tarcal/tarcal/schedules/Basis") (12 : Int32) [(.ref w_DAYS), (.ref w_ENERGY), (.ref w_ON_PEAK_ENERGY), (.ref w_OFF_PEAK_ENERGY), (.ref w_BILLING_DEMAND_DAYS), (.ref w_METERED_DEMAND_DAYS), (.ref w_FIXTURE_DAYS), .null, .null, .null, .null, .null] .null := Arv.set Ar21 q21 S21 M21 Hs21 G21 rfl W22 6 rfl (Nat.le_of_ble_eq_true rfl)
  have KK22 : Keep h0 h22 [] := KK19.wr W22 (Or.inr sz_b1)
  have OL22 := OL19.wr W22 g_b1
  have N22 := Fr.snoc X22 N19 g_b1
  obtain ⟨T23, X23, e23, st23⟩ := getS2 X22 hx hZ hown (host := "") (Or.inl (wd18 hw)) Via.refl e22 (pr15.ext OL22.2) (g := (mkF m 51 #[.val (.int p1), .unset, .unset, .unset, .unset, .unset] [(.int (7 : Int32)), (.ref b1), (.ref b1)])) rfl (hb hby at_51)
  obtain ⟨cl24, Ar24, q24, S24, M24, Hs24, G24⟩ := V22
  have hin24 : ¬ ((7 : Int32) < 0 ∨ cl24.slots.size ≤ ((7 : Int32)).toNatClampNeg) := inb_of S24 ⟨by decide, by decide⟩
  obtain ⟨T25, h25, X25, e25, W25, st25⟩ := stR X23 hx hZ e23 Ar24 (j := (7 : Int32)) hin24 rfl (Sto.ofV Ar24 q24 O1 (Ins.self (pr16.ext OL22.2))) (g := (mkF m 54 #[.val (.int p1), .unset, .unset, .unset, .unset, .unset] [(.ref w_HIGHEST_HOUR_ENERGY), (.int (7 : Int32)), (.ref b1), (.ref b1)])) rfl rfl (hb hby at_54)
  have V25 : Arv Z h25 b1 k1 (.object "com/example/tarcal/tarcal/schedules/Basis") (12 : Int32) [(.ref w_DAYS), (.ref w_ENERGY), (.ref w_ON_PEAK_ENERGY), (.ref w_OFF_PEAK_ENERGY), (.ref w_BILLING_DEMAND_DAYS), (.ref w_METERED_DEMAND_DAYS), (.ref w_FIXTURE_DAYS), (.ref w_HIGHEST_HOUR_ENERGY), .null, .null, .null, .null] .null := Arv.set Ar24 q24 S24 M24 Hs24 G24 rfl W25 7 rfl (Nat.le_of_ble_eq_true rfl)
  have KK25 : Keep h0 h25 [] := KK22.wr W25 (Or.inr sz_b1)
  have OL25 := OL22.wr W25 g_b1
  have N25 := Fr.snoc X25 N22 g_b1
  obtain ⟨T26, X26, e26, st26⟩ := getS2 X25 hx hZ hown (host := "") (Or.inl (wd20 hw)) Via.refl e25 (pr17.ext OL25.2) (g := (mkF m 58 #[.val (.int p1), .unset, .unset, .unset, .unset, .unset] [(.int (8 : Int32)), (.ref b1), (.ref b1)])) rfl (hb hby at_58)
  obtain ⟨cl27, Ar27, q27, S27, M27, Hs27, G27⟩ := V25
  have hin27 : ¬ ((8 : Int32) < 0 ∨ cl27.slots.size ≤ ((8 : Int32)).toNatClampNeg) := inb_of S27 ⟨by decide, by decide⟩
  obtain ⟨T28, h28, X28, e28, W28, st28⟩ := stR X26 hx hZ e26 Ar27 (j := (8 : Int32)) hin27 rfl (Sto.ofV Ar27 q27 O1 (Ins.self (pr18.ext OL25.2))) (g := (mkF m 61 #[.val (.int p1), .unset, .unset, .unset, .unset, .unset] [(.ref w_GAS_INDEXED_ENERGY), (.int (8 : Int32)), (.ref b1), (.ref b1)])) rfl rfl (hb hby at_61)
  have V28 : Arv Z h28 b1 k1 (.object "com/example/tarcal/tarcal/schedules/Basis") (12 : Int32) [(.ref w_DAYS), (.ref w_ENERGY), (.ref w_ON_PEAK_ENERGY), (.ref w_OFF_PEAK_ENERGY), (.ref w_BILLING_DEMAND_DAYS), (.ref w_METERED_DEMAND_DAYS), (.ref w_FIXTURE_DAYS), (.ref w_HIGHEST_HOUR_ENERGY), (.ref w_GAS_INDEXED_ENERGY), .null, .null, .null] .null := Arv.set Ar27 q27 S27 M27 Hs27 G27 rfl W28 8 rfl (Nat.le_of_ble_eq_true rfl)
  have KK28 : Keep h0 h28 [] := KK25.wr W28 (Or.inr sz_b1)
  have OL28 := OL25.wr W28 g_b1
  have N28 := Fr.snoc X28 N25 g_b1
  obtain ⟨T29, X29, e29, st29⟩ := getS2 X28 hx hZ hown (host := "") (Or.inl (wd22 hw)) Via.refl e28 (pr19.ext OL28.2) (g := (mkF m 65 #[.val (.int p1), .unset, .unset, .unset, .unset, .unset] [(.int (9 : Int32)), (.ref b1), (.ref b1)])) rfl (hb hby at_65)
  obtain ⟨cl30, Ar30, q30, S30, M30, Hs30, G30⟩ := V28
  have hin30 : ¬ ((9 : Int32) < 0 ∨ cl30.slots.size ≤ ((9 : Int32)).toNatClampNeg) := inb_of S30 ⟨by decide, by decide⟩
  obtain ⟨T31, h31, X31, e31, W31, st31⟩ := stR X29 hx hZ e29 Ar30 (j := (9 : Int32)) hin30 rfl (Sto.ofV Ar30 q30 O1 (Ins.self (pr20.ext OL28.2))) (g := (mkF m 68 #[.val (.int p1), .unset, .unset, .unset, .unset, .unset] [(.ref w_POOL_PRICED_ENERGY), (.int (9 : Int32)), (.ref b1), (.ref b1)])) rfl rfl (hb hby at_68)
  have V31 : Arv Z h31 b1 k1 (.object "com/example/tarcal/tarcal/schedules/Basis") (12 : Int32) [(.ref w_DAYS), (.ref w_ENERGY), (.ref w_ON_PEAK_ENERGY), (.ref w_OFF_PEAK_ENERGY), (.ref w_BILLING_DEMAND_DAYS), (.ref w_METERED_DEMAND_DAYS), (.ref w_FIXTURE_DAYS), (.ref w_HIGHEST_HOUR_ENERGY), (.ref w_GAS_INDEXED_ENERGY), (.ref w_POOL_PRICED_ENERGY), .null, .null] .null := Arv.set Ar30 q30 S30 M30 Hs30 G30 rfl W31 9 rfl (Nat.le_of_ble_eq_true rfl)
  have KK31 : Keep h0 h31 [] := KK28.wr W31 (Or.inr sz_b1)
  have OL31 := OL28.wr W31 g_b1
  have N31 := Fr.snoc X31 N28 g_b1
  obtain ⟨T32, X32, e32, st32⟩ := getS2 X31 hx hZ hown (host := "") (Or.inl (wd24 hw)) Via.refl e31 (pr21.ext OL31.2) (g := (mkF m 72 #[.val (.int p1), .unset, .unset, .unset, .unset, .unset] [(.int (10 : Int32)), (.ref b1), (.ref b1)])) rfl (hb hby at_72)
  obtain ⟨cl33, Ar33, q33, S33, M33, Hs33, G33⟩ := V31
  have hin33 : ¬ ((10 : Int32) < 0 ∨ cl33.slots.size ≤ ((10 : Int32)).toNatClampNeg) := inb_of S33 ⟨by decide, by decide⟩
  obtain ⟨T34, h34, X34, e34, W34, st34⟩ := stR X32 hx hZ e32 Ar33 (j := (10 : Int32)) hin33 rfl (Sto.ofV Ar33 q33 O1 (Ins.self (pr22.ext OL31.2))) (g := (mkF m 75 #[.val (.int p1), .unset, .unset, .unset, .unset, .unset] [(.ref w_ISO_COSTS), (.int (10 : Int32)), (.ref b1), (.ref b1)])) rfl rfl (hb hby at_75)
  have V34 : Arv Z h34 b1 k1 (.object "com/example/tarcal/tarcal/schedules/Basis") (12 : Int32) [(.ref w_DAYS), (.ref w_ENERGY), (.ref w_ON_PEAK_ENERGY), (.ref w_OFF_PEAK_ENERGY), (.ref w_BILLING_DEMAND_DAYS), (.ref w_METERED_DEMAND_DAYS), (.ref w_FIXTURE_DAYS), (.ref w_HIGHEST_HOUR_ENERGY), (.ref w_GAS_INDEXED_ENERGY), (.ref w_POOL_PRICED_ENERGY), (.ref w_ISO_COSTS), .null] .null := Arv.set Ar33 q33 S33 M33 Hs33 G33 rfl W34 10 rfl (Nat.le_of_ble_eq_true rfl)
  have KK34 : Keep h0 h34 [] := KK31.wr W34 (Or.inr sz_b1)
  have OL34 := OL31.wr W34 g_b1
  have N34 := Fr.snoc X34 N31 g_b1
  obtain ⟨T35, X35, e35, st35⟩ := getS2 X34 hx hZ hown (host := "") (Or.inl (wd26 hw)) Via.refl e34 (pr23.ext OL34.2) (g := (mkF m 79 #[.val (.int p1), .unset, .unset, .unset, .unset, .unset] [(.int (11 : Int32)), (.ref b1), (.ref b1)])) rfl (hb hby at_79)
  obtain ⟨cl36, Ar36, q36, S36, M36, Hs36, G36⟩ := V34
  have hin36 : ¬ ((11 : Int32) < 0 ∨ cl36.slots.size ≤ ((11 : Int32)).toNatClampNeg) := inb_of S36 ⟨by decide, by decide⟩
  obtain ⟨T37, h37, X37, e37, W37, st37⟩ := stR X35 hx hZ e35 Ar36 (j := (11 : Int32)) hin36 rfl (Sto.ofV Ar36 q36 O1 (Ins.self (pr24.ext OL34.2))) (g := (mkF m 82 #[.val (.int p1), .unset, .unset, .unset, .unset, .unset] [(.ref w_DISTRIBUTION_ACCESS_CHARGES), (.int (11 : Int32)), (.ref b1), (.ref b1)])) rfl rfl (hb hby at_82)
  have V37 : Arv Z h37 b1 k1 (.object "com/example/tarcal/tarcal/schedules/Basis") (12 : Int32) [(.ref w_DAYS), (.ref w_ENERGY), (.ref w_ON_PEAK_ENERGY), (.ref w_OFF_PEAK_ENERGY), (.ref w_BILLING_DEMAND_DAYS), (.ref w_METERED_DEMAND_DAYS), (.ref w_FIXTURE_DAYS), (.ref w_HIGHEST_HOUR_ENERGY), (.ref w_GAS_INDEXED_ENERGY), (.ref w_POOL_PRICED_ENERGY), (.ref w_ISO_COSTS), (.ref w_DISTRIBUTION_ACCESS_CHARGES)] .null := Arv.set Ar36 q36 S36 M36 Hs36 G36 rfl W37 11 rfl (Nat.le_of_ble_eq_true rfl)
  have KK37 : Keep h0 h37 [] := KK34.wr W37 (Or.inr sz_b1)
  have OL37 := OL34.wr W37 g_b1
  have N37 := Fr.snoc X37 N34 g_b1
  obtain ⟨cl38, Ar38, -, S38, -, Hs38, -⟩ := V37
  have hin38 : ¬ ((0 : Int32) < 0 ∨ cl38.slots.size ≤ ((0 : Int32)).toNatClampNeg) := inb_of S38 ⟨by decide, by decide⟩
  have hat38 : cl38.slots[((0 : Int32)).toNatClampNeg]? = some (.ref w_DAYS) := Hs38.at hin38 rfl
  obtain ⟨cq39, kq39, q39a, q39b, q39c⟩ := isOf hZ e37 (pr2.ext OL37.2)
  obtain ⟨_, _, ⟨T39, L39, k39, n39⟩, -, X39, ⟨Lc39, hQ39, l39, y39, z39⟩, st39⟩ := X37.virtualBack hx (y := (⟨"com/example/tarcal/tarcal/schedules/Basis", "perPeriod", "()Z"⟩ : MethodName)) (z := (⟨"com/example/tarcal/tarcal/schedules/Basis", "perPeriod", "()Z"⟩ : MethodName)) hown (mvT hZ (wd29 hw)) (mvT hZ (wd30 hw)) (notFace_of_selects (args := #[]) (mvT hZ (wd32 hw))) (mvT hZ (wd32 hw)) (mvT hZ (wd31 hw)) (by decide) (backOf (W := 0) (rm1_0 l Z a0 hw [] w_DAYS w_HIGHEST_HOUR_ENERGY w_GAS_INDEXED_ENERGY w_POOL_PRICED_ENERGY h37 n0 OL37 pr15 pr26 pr17 pr27 pr19 pr28) hZ (wd33 hw) (wd3 hw) (by decide) (by decide)) q39a q39c (g := (mkF m 122 #[.val (.int p1), .val (.ref b1), .val (.int (0 : Int32)), .val (.ref w_DAYS), .val (.int (0 : Int32)), .unset] [(.ref w_DAYS)])) rfl (by rw [hml]; rfl) (Steps.refl _) (argsL := []) (rest := []) (lenOf pd_0 rfl) rfl (by show 2 * 0 + _ ≤ _; exact Nat.le_of_eq rfl) (hb hby at_122) (fun _ _ => ⟨rfl, e37, (by decide : 1 + 0 ≤ _), (by decide : 12 + 0 ≤ _)⟩)
  dsimp only [Pt.U, Pt.locs, Pt.cells, Pt.slots] at X39 l39 y39 z39 st39 hQ39
  subst l39 y39 z39
  obtain ⟨rfl, Nq39, ec39⟩ := hQ39
  have N39 := Fr.app N37 Nq39
  obtain ⟨fs, hr, hrun, hended, hW, hsame⟩ := X39.leave (v := some (.int (1 : Int32))) (fun h => by rw [Bd.returns] at h; cases h)
  refine ⟨_, _, pre0 _ ?_, hrun, hended, _, _, rfl, ?_, ⟨_, rfl⟩, hW, hsame.mono (by decide) (by decide)⟩
  · show Steps p.tables e below (s₁.setTop (mkF m 0 #[.val (.int p1), .unset, .unset, .unset, .unset, .unset] [])) _
    refine XS.bipush X0.here hx rfl (hb hby at_0) ?_
    show Steps p.tables e below (s₁.setTop (mkF m 2 #[.val (.int p1), .unset, .unset, .unset, .unset, .unset] [(.int (12 : Int32))])) _
    refine st1 _ ?_
    show Steps p.tables e below (T1.setTop (mkF m 5 #[.val (.int p1), .unset, .unset, .unset, .unset, .unset] [(.ref b1)])) _
    refine XS.dup X1.here hx rfl (hb hby at_5) rfl rfl ?_
    show Steps p.tables e below (T1.setTop (mkF m 6 #[.val (.int p1), .unset, .unset, .unset, .unset, .unset] [(.ref b1), (.ref b1)])) _
    refine XS.iconst X1.here hx rfl (hb hby at_6) ?_
    show Steps p.tables e below (T1.setTop (mkF m 7 #[.val (.int p1), .unset, .unset, .unset, .unset, .unset] [(.int (0 : Int32)), (.ref b1), (.ref b1)])) _
    refine st2 _ ?_
    show Steps p.tables e below (T2.setTop (mkF m 10 #[.val (.int p1), .unset, .unset, .unset, .unset, .unset] [(.ref w_DAYS), (.int (0 : Int32)), (.ref b1), (.ref b1)])) _
    refine st4 _ ?_
    show Steps p.tables e below (T4.setTop (mkF m 11 #[.val (.int p1), .unset, .unset, .unset, .unset, .unset] [(.ref b1)])) _
    refine XS.dup X4.here hx rfl (hb hby at_11) rfl rfl ?_
    show Steps p.tables e below (T4.setTop (mkF m 12 #[.val (.int p1), .unset, .unset, .unset, .unset, .unset] [(.ref b1), (.ref b1)])) _
    refine XS.iconst X4.here hx rfl (hb hby at_12) ?_
    show Steps p.tables e below (T4.setTop (mkF m 13 #[.val (.int p1), .unset, .unset, .unset, .unset, .unset] [(.int (1 : Int32)), (.ref b1), (.ref b1)])) _
    refine st5 _ ?_
    show Steps p.tables e below (T5.setTop (mkF m 16 #[.val (.int p1), .unset, .unset, .unset, .unset, .unset] [(.ref w_ENERGY), (.int (1 : Int32)), (.ref b1), (.ref b1)])) _
    refine st7 _ ?_
    show Steps p.tables e below (T7.setTop (mkF m 17 #[.val (.int p1), .unset, .unset, .unset, .unset, .unset] [(.ref b1)])) _
    refine XS.dup X7.here hx rfl (hb hby at_17) rfl rfl ?_
    show Steps p.tables e below (T7.setTop (mkF m 18 #[.val (.int p1), .unset, .unset, .unset, .unset, .unset] [(.ref b1), (.ref b1)])) _
    refine XS.iconst X7.here hx rfl (hb hby at_18) ?_
    show Steps p.tables e below (T7.setTop (mkF m 19 #[.val (.int p1), .unset, .unset, .unset, .unset, .unset] [(.int (2 : Int32)), (.ref b1), (.ref b1)])) _
    refine st8 _ ?_
    show Steps p.tables e below (T8.setTop (mkF m 22 #[.val (.int p1), .unset, .unset, .unset, .unset, .unset] [(.ref w_ON_PEAK_ENERGY), (.int (2 : Int32)), (.ref b1), (.ref b1)])) _
    refine st10 _ ?_
    show Steps p.tables e below (T10.setTop (mkF m 23 #[.val (.int p1), .unset, .unset, .unset, .unset, .unset] [(.ref b1)])) _
    refine XS.dup X10.here hx rfl (hb hby at_23) rfl rfl ?_
    show Steps p.tables e below (T10.setTop (mkF m 24 #[.val (.int p1), .unset, .unset, .unset, .unset, .unset] [(.ref b1), (.ref b1)])) _
    refine XS.iconst X10.here hx rfl (hb hby at_24) ?_
    show Steps p.tables e below (T10.setTop (mkF m 25 #[.val (.int p1), .unset, .unset, .unset, .unset, .unset] [(.int (3 : Int32)), (.ref b1), (.ref b1)])) _
    refine st11 _ ?_
    show Steps p.tables e below (T11.setTop (mkF m 28 #[.val (.int p1), .unset, .unset, .unset, .unset, .unset] [(.ref w_OFF_PEAK_ENERGY), (.int (3 : Int32)), (.ref b1), (.ref b1)])) _
    refine st13 _ ?_
    show Steps p.tables e below (T13.setTop (mkF m 29 #[.val (.int p1), .unset, .unset, .unset, .unset, .unset] [(.ref b1)])) _
    refine XS.dup X13.here hx rfl (hb hby at_29) rfl rfl ?_
    show Steps p.tables e below (T13.setTop (mkF m 30 #[.val (.int p1), .unset, .unset, .unset, .unset, .unset] [(.ref b1), (.ref b1)])) _
    refine XS.iconst X13.here hx rfl (hb hby at_30) ?_
    show Steps p.tables e below (T13.setTop (mkF m 31 #[.val (.int p1), .unset, .unset, .unset, .unset, .unset] [(.int (4 : Int32)), (.ref b1), (.ref b1)])) _
    refine st14 _ ?_
    show Steps p.tables e below (T14.setTop (mkF m 34 #[.val (.int p1), .unset, .unset, .unset, .unset, .unset] [(.ref w_BILLING_DEMAND_DAYS), (.int (4 : Int32)), (.ref b1), (.ref b1)])) _
    refine st16 _ ?_
    show Steps p.tables e below (T16.setTop (mkF m 35 #[.val (.int p1), .unset, .unset, .unset, .unset, .unset] [(.ref b1)])) _
    refine XS.dup X16.here hx rfl (hb hby at_35) rfl rfl ?_
    show Steps p.tables e below (T16.setTop (mkF m 36 #[.val (.int p1), .unset, .unset, .unset, .unset, .unset] [(.ref b1), (.ref b1)])) _
    refine XS.iconst X16.here hx rfl (hb hby at_36) ?_
    show Steps p.tables e below (T16.setTop (mkF m 37 #[.val (.int p1), .unset, .unset, .unset, .unset, .unset] [(.int (5 : Int32)), (.ref b1), (.ref b1)])) _
    refine st17 _ ?_
    show Steps p.tables e below (T17.setTop (mkF m 40 #[.val (.int p1), .unset, .unset, .unset, .unset, .unset] [(.ref w_METERED_DEMAND_DAYS), (.int (5 : Int32)), (.ref b1), (.ref b1)])) _
    refine st19 _ ?_
    show Steps p.tables e below (T19.setTop (mkF m 41 #[.val (.int p1), .unset, .unset, .unset, .unset, .unset] [(.ref b1)])) _
    refine XS.dup X19.here hx rfl (hb hby at_41) rfl rfl ?_
    show Steps p.tables e below (T19.setTop (mkF m 42 #[.val (.int p1), .unset, .unset, .unset, .unset, .unset] [(.ref b1), (.ref b1)])) _
    refine XS.bipush X19.here hx rfl (hb hby at_42) ?_
    show Steps p.tables e below (T19.setTop (mkF m 44 #[.val (.int p1), .unset, .unset, .unset, .unset, .unset] [(.int (6 : Int32)), (.ref b1), (.ref b1)])) _
    refine st20 _ ?_
    show Steps p.tables e below (T20.setTop (mkF m 47 #[.val (.int p1), .unset, .unset, .unset, .unset, .unset] [(.ref w_FIXTURE_DAYS), (.int (6 : Int32)), (.ref b1), (.ref b1)])) _
    refine st22 _ ?_
    show Steps p.tables e below (T22.setTop (mkF m 48 #[.val (.int p1), .unset, .unset, .unset, .unset, .unset] [(.ref b1)])) _
    refine XS.dup X22.here hx rfl (hb hby at_48) rfl rfl ?_
    show Steps p.tables e below (T22.setTop (mkF m 49 #[.val (.int p1), .unset, .unset, .unset, .unset, .unset] [(.ref b1), (.ref b1)])) _
    refine XS.bipush X22.here hx rfl (hb hby at_49) ?_
    show Steps p.tables e below (T22.setTop (mkF m 51 #[.val (.int p1), .unset, .unset, .unset, .unset, .unset] [(.int (7 : Int32)), (.ref b1), (.ref b1)])) _
    refine st23 _ ?_
    show Steps p.tables e below (T23.setTop (mkF m 54 #[.val (.int p1), .unset, .unset, .unset, .unset, .unset] [(.ref w_HIGHEST_HOUR_ENERGY), (.int (7 : Int32)), (.ref b1), (.ref b1)])) _
    refine st25 _ ?_
    show Steps p.tables e below (T25.setTop (mkF m 55 #[.val (.int p1), .unset, .unset, .unset, .unset, .unset] [(.ref b1)])) _
    refine XS.dup X25.here hx rfl (hb hby at_55) rfl rfl ?_
    show Steps p.tables e below (T25.setTop (mkF m 56 #[.val (.int p1), .unset, .unset, .unset, .unset, .unset] [(.ref b1), (.ref b1)])) _
    refine XS.bipush X25.here hx rfl (hb hby at_56) ?_
    show Steps p.tables e below (T25.setTop (mkF m 58 #[.val (.int p1), .unset, .unset, .unset, .unset, .unset] [(.int (8 : Int32)), (.ref b1), (.ref b1)])) _
    refine st26 _ ?_
    show Steps p.tables e below (T26.setTop (mkF m 61 #[.val (.int p1), .unset, .unset, .unset, .unset, .unset] [(.ref w_GAS_INDEXED_ENERGY), (.int (8 : Int32)), (.ref b1), (.ref b1)])) _
    refine st28 _ ?_
    show Steps p.tables e below (T28.setTop (mkF m 62 #[.val (.int p1), .unset, .unset, .unset, .unset, .unset] [(.ref b1)])) _
    refine XS.dup X28.here hx rfl (hb hby at_62) rfl rfl ?_
    show Steps p.tables e below (T28.setTop (mkF m 63 #[.val (.int p1), .unset, .unset, .unset, .unset, .unset] [(.ref b1), (.ref b1)])) _
    refine XS.bipush X28.here hx rfl (hb hby at_63) ?_
    show Steps p.tables e below (T28.setTop (mkF m 65 #[.val (.int p1), .unset, .unset, .unset, .unset, .unset] [(.int (9 : Int32)), (.ref b1), (.ref b1)])) _
    refine st29 _ ?_
    show Steps p.tables e below (T29.setTop (mkF m 68 #[.val (.int p1), .unset, .unset, .unset, .unset, .unset] [(.ref w_POOL_PRICED_ENERGY), (.int (9 : Int32)), (.ref b1), (.ref b1)])) _
    refine st31 _ ?_
    show Steps p.tables e below (T31.setTop (mkF m 69 #[.val (.int p1), .unset, .unset, .unset, .unset, .unset] [(.ref b1)])) _
    refine XS.dup X31.here hx rfl (hb hby at_69) rfl rfl ?_
    show Steps p.tables e below (T31.setTop (mkF m 70 #[.val (.int p1), .unset, .unset, .unset, .unset, .unset] [(.ref b1), (.ref b1)])) _
    refine XS.bipush X31.here hx rfl (hb hby at_70) ?_
    show Steps p.tables e below (T31.setTop (mkF m 72 #[.val (.int p1), .unset, .unset, .unset, .unset, .unset] [(.int (10 : Int32)), (.ref b1), (.ref b1)])) _
    refine st32 _ ?_
    show Steps p.tables e below (T32.setTop (mkF m 75 #[.val (.int p1), .unset, .unset, .unset, .unset, .unset] [(.ref w_ISO_COSTS), (.int (10 : Int32)), (.ref b1), (.ref b1)])) _
    refine st34 _ ?_
    show Steps p.tables e below (T34.setTop (mkF m 76 #[.val (.int p1), .unset, .unset, .unset, .unset, .unset] [(.ref b1)])) _
    refine XS.dup X34.here hx rfl (hb hby at_76) rfl rfl ?_
    show Steps p.tables e below (T34.setTop (mkF m 77 #[.val (.int p1), .unset, .unset, .unset, .unset, .unset] [(.ref b1), (.ref b1)])) _
    refine XS.bipush X34.here hx rfl (hb hby at_77) ?_
    show Steps p.tables e below (T34.setTop (mkF m 79 #[.val (.int p1), .unset, .unset, .unset, .unset, .unset] [(.int (11 : Int32)), (.ref b1), (.ref b1)])) _
    refine st35 _ ?_
    show Steps p.tables e below (T35.setTop (mkF m 82 #[.val (.int p1), .unset, .unset, .unset, .unset, .unset] [(.ref w_DISTRIBUTION_ACCESS_CHARGES), (.int (11 : Int32)), (.ref b1), (.ref b1)])) _
    refine st37 _ ?_
    show Steps p.tables e below (T37.setTop (mkF m 83 #[.val (.int p1), .unset, .unset, .unset, .unset, .unset] [(.ref b1)])) _
    refine XS.astoreN X37.here hx rfl (hb hby at_83) rfl rfl (l' := #[.val (.int p1), .val (.ref b1), .unset, .unset, .unset, .unset]) rfl ?_
    show Steps p.tables e below (T37.setTop (mkF m 84 #[.val (.int p1), .val (.ref b1), .unset, .unset, .unset, .unset] [])) _
    refine XS.iloadN X37.here hx rfl (hb hby at_84) rfl ?_
    show Steps p.tables e below (T37.setTop (mkF m 85 #[.val (.int p1), .val (.ref b1), .unset, .unset, .unset, .unset] [(.int p1)])) _
    refine X37.ldcInt hx hown (mvT hZ (wd28 hw)) (g := (mkF m 85 #[.val (.int p1), .val (.ref b1), .unset, .unset, .unset, .unset] [(.int p1)])) rfl (hb hby at_85) _ ?_
    show Steps p.tables e below (T37.setTop (mkF m 87 #[.val (.int p1), .val (.ref b1), .unset, .unset, .unset, .unset] [(.int (2147483647 : Int32)), (.int p1)])) _
    refine XS.iand X37.here hx rfl (hb hby at_87) rfl ?_
    show Steps p.tables e below (T37.setTop (mkF m 88 #[.val (.int p1), .val (.ref b1), .unset, .unset, .unset, .unset] [(.int (p1 &&& (2147483647 : Int32)))])) _
    refine XS.bipush X37.here hx rfl (hb hby at_88) ?_
    show Steps p.tables e below (T37.setTop (mkF m 90 #[.val (.int p1), .val (.ref b1), .unset, .unset, .unset, .unset] [(.int (12 : Int32)), (.int (p1 &&& (2147483647 : Int32)))])) _
    refine iremM X37 hx rfl (hb hby at_90) rfl (by decide) ?_
    show Steps p.tables e below (T37.setTop (mkF m 91 #[.val (.int p1), .val (.ref b1), .unset, .unset, .unset, .unset] [(.int ((p1 &&& (2147483647 : Int32)) % (12 : Int32)))])) _
    rw [pr25]
    show Steps p.tables e below (T37.setTop (mkF m 91 #[.val (.int p1), .val (.ref b1), .unset, .unset, .unset, .unset] [(.int (0 : Int32))])) _
    refine XS.istoreN X37.here hx rfl (hb hby at_91) rfl (l' := #[.val (.int p1), .val (.ref b1), .val (.int (0 : Int32)), .unset, .unset, .unset]) rfl ?_
    show Steps p.tables e below (T37.setTop (mkF m 92 #[.val (.int p1), .val (.ref b1), .val (.int (0 : Int32)), .unset, .unset, .unset] [])) _
    refine XS.aloadN X37.here hx rfl (hb hby at_92) rfl rfl ?_
    show Steps p.tables e below (T37.setTop (mkF m 93 #[.val (.int p1), .val (.ref b1), .val (.int (0 : Int32)), .unset, .unset, .unset] [(.ref b1)])) _
    refine XS.iloadN X37.here hx rfl (hb hby at_93) rfl ?_
    show Steps p.tables e below (T37.setTop (mkF m 94 #[.val (.int p1), .val (.ref b1), .val (.int (0 : Int32)), .unset, .unset, .unset] [(.int (0 : Int32)), (.ref b1)])) _
    refine X37.aaload hx (j := (0 : Int32)) (v := (.ref w_DAYS)) (by rw [e37]; exact Ar38.1) (State.isArrayOf_alike hZ.alike Ar38.2.1) rfl Ar38.2.2 hin38 hat38 (g := (mkF m 94 #[.val (.int p1), .val (.ref b1), .val (.int (0 : Int32)), .unset, .unset, .unset] [(.int (0 : Int32)), (.ref b1)])) rfl rfl (hb hby at_94) _ ?_
    show Steps p.tables e below (T37.setTop (mkF m 95 #[.val (.int p1), .val (.ref b1), .val (.int (0 : Int32)), .unset, .unset, .unset] [(.ref w_DAYS)])) _
    refine XS.astoreN X37.here hx rfl (hb hby at_95) rfl rfl (l' := #[.val (.int p1), .val (.ref b1), .val (.int (0 : Int32)), .val (.ref w_DAYS), .unset, .unset]) rfl ?_
    show Steps p.tables e below (T37.setTop (mkF m 96 #[.val (.int p1), .val (.ref b1), .val (.int (0 : Int32)), .val (.ref w_DAYS), .unset, .unset] [])) _
    refine XS.iloadN X37.here hx rfl (hb hby at_96) rfl ?_
    show Steps p.tables e below (T37.setTop (mkF m 97 #[.val (.int p1), .val (.ref b1), .val (.int (0 : Int32)), .val (.ref w_DAYS), .unset, .unset] [(.int (0 : Int32))])) _
    refine XS.bipush X37.here hx rfl (hb hby at_97) ?_
    show Steps p.tables e below (T37.setTop (mkF m 99 #[.val (.int p1), .val (.ref b1), .val (.int (0 : Int32)), .val (.ref w_DAYS), .unset, .unset] [(.int (7 : Int32)), (.int (0 : Int32))])) _
    refine XS.icmpNo X37.here hx rfl (hb hby at_99) rfl (feq (by decide : ¬ ((0 : Int32) = (7 : Int32)))).1 ?_
    show Steps p.tables e below (T37.setTop (mkF m 102 #[.val (.int p1), .val (.ref b1), .val (.int (0 : Int32)), .val (.ref w_DAYS), .unset, .unset] [])) _
    refine XS.iloadN X37.here hx rfl (hb hby at_102) rfl ?_
    show Steps p.tables e below (T37.setTop (mkF m 103 #[.val (.int p1), .val (.ref b1), .val (.int (0 : Int32)), .val (.ref w_DAYS), .unset, .unset] [(.int (0 : Int32))])) _
    refine XS.bipush X37.here hx rfl (hb hby at_103) ?_
    show Steps p.tables e below (T37.setTop (mkF m 105 #[.val (.int p1), .val (.ref b1), .val (.int (0 : Int32)), .val (.ref w_DAYS), .unset, .unset] [(.int (8 : Int32)), (.int (0 : Int32))])) _
    refine XS.icmpNo X37.here hx rfl (hb hby at_105) rfl (feq (by decide : ¬ ((0 : Int32) = (8 : Int32)))).1 ?_
    show Steps p.tables e below (T37.setTop (mkF m 108 #[.val (.int p1), .val (.ref b1), .val (.int (0 : Int32)), .val (.ref w_DAYS), .unset, .unset] [])) _
    refine XS.iloadN X37.here hx rfl (hb hby at_108) rfl ?_
    show Steps p.tables e below (T37.setTop (mkF m 109 #[.val (.int p1), .val (.ref b1), .val (.int (0 : Int32)), .val (.ref w_DAYS), .unset, .unset] [(.int (0 : Int32))])) _
    refine XS.bipush X37.here hx rfl (hb hby at_109) ?_
    show Steps p.tables e below (T37.setTop (mkF m 111 #[.val (.int p1), .val (.ref b1), .val (.int (0 : Int32)), .val (.ref w_DAYS), .unset, .unset] [(.int (9 : Int32)), (.int (0 : Int32))])) _
    refine XS.icmpYes X37.here hx rfl (pc0 := 111) (pc' := 118) rfl (hb hby at_111) rfl (feq (by decide : ¬ ((0 : Int32) = (9 : Int32)))).2 (by decide) (by decide) ?_
    show Steps p.tables e below (T37.setTop (mkF m 118 #[.val (.int p1), .val (.ref b1), .val (.int (0 : Int32)), .val (.ref w_DAYS), .unset, .unset] [])) _
    refine XS.iconst X37.here hx rfl (hb hby at_118) ?_
    show Steps p.tables e below (T37.setTop (mkF m 119 #[.val (.int p1), .val (.ref b1), .val (.int (0 : Int32)), .val (.ref w_DAYS), .unset, .unset] [(.int (0 : Int32))])) _
    refine XS.istore X37.here hx rfl (hb hby at_119) rfl (l' := #[.val (.int p1), .val (.ref b1), .val (.int (0 : Int32)), .val (.ref w_DAYS), .val (.int (0 : Int32)), .unset]) rfl ?_
    show Steps p.tables e below (T37.setTop (mkF m 121 #[.val (.int p1), .val (.ref b1), .val (.int (0 : Int32)), .val (.ref w_DAYS), .val (.int (0 : Int32)), .unset] [])) _
    refine XS.aloadN X37.here hx rfl (hb hby at_121) rfl rfl ?_
    show Steps p.tables e below (T37.setTop (mkF m 122 #[.val (.int p1), .val (.ref b1), .val (.int (0 : Int32)), .val (.ref w_DAYS), .val (.int (0 : Int32)), .unset] [(.ref w_DAYS)])) _
    refine st39.trans ?_
    show Steps p.tables e below (T39.setTop (mkF m 125 #[.val (.int p1), .val (.ref b1), .val (.int (0 : Int32)), .val (.ref w_DAYS), .val (.int (0 : Int32)), .unset] [(.int (0 : Int32))])) _
    refine XS.istore X39.here hx rfl (hb hby at_125) rfl (l' := #[.val (.int p1), .val (.ref b1), .val (.int (0 : Int32)), .val (.ref w_DAYS), .val (.int (0 : Int32)), .val (.int (0 : Int32))]) rfl ?_
    show Steps p.tables e below (T39.setTop (mkF m 127 #[.val (.int p1), .val (.ref b1), .val (.int (0 : Int32)), .val (.ref w_DAYS), .val (.int (0 : Int32)), .val (.int (0 : Int32))] [])) _
    refine XS.iload X39.here hx rfl (hb hby at_127) rfl ?_
    show Steps p.tables e below (T39.setTop (mkF m 129 #[.val (.int p1), .val (.ref b1), .val (.int (0 : Int32)), .val (.ref w_DAYS), .val (.int (0 : Int32)), .val (.int (0 : Int32))] [(.int (0 : Int32))])) _
    refine XS.iload X39.here hx rfl (hb hby at_129) rfl ?_
    show Steps p.tables e below (T39.setTop (mkF m 131 #[.val (.int p1), .val (.ref b1), .val (.int (0 : Int32)), .val (.ref w_DAYS), .val (.int (0 : Int32)), .val (.int (0 : Int32))] [(.int (0 : Int32)), (.int (0 : Int32))])) _
    refine XS.icmpYes X39.here hx rfl (pc0 := 131) (pc' := 136) rfl (hb hby at_131) rfl (teq (rfl : (0 : Int32) = (0 : Int32))).1 (by decide) (by decide) ?_
    show Steps p.tables e below (T39.setTop (mkF m 136 #[.val (.int p1), .val (.ref b1), .val (.int (0 : Int32)), .val (.ref w_DAYS), .val (.int (0 : Int32)), .val (.int (0 : Int32))] [])) _
    refine XS.iload X39.here hx rfl (hb hby at_136) rfl ?_
    show Steps p.tables e below (T39.setTop (mkF m 138 #[.val (.int p1), .val (.ref b1), .val (.int (0 : Int32)), .val (.ref w_DAYS), .val (.int (0 : Int32)), .val (.int (0 : Int32))] [(.int (0 : Int32))])) _
    refine XS.ifYes X39.here hx rfl (pc0 := 138) (pc' := 164) rfl (hb hby at_138) rfl ((if0 _ _).trans (teq (rfl : (0 : Int32) = (0 : Int32))).1) (by decide) (by decide) ?_
    show Steps p.tables e below (T39.setTop (mkF m 164 #[.val (.int p1), .val (.ref b1), .val (.int (0 : Int32)), .val (.ref w_DAYS), .val (.int (0 : Int32)), .val (.int (0 : Int32))] [])) _
    refine XS.iconst X39.here hx rfl (hb hby at_164) ?_
    show Steps p.tables e below (T39.setTop (mkF m 165 #[.val (.int p1), .val (.ref b1), .val (.int (0 : Int32)), .val (.ref w_DAYS), .val (.int (0 : Int32)), .val (.int (0 : Int32))] [(.int (1 : Int32))])) _
    exact retN X39 hx (t := .boolean) Bd.returns (by simp) (hb hby at_165) hr
  · exact ⟨rfl, N39⟩
set_option maxRecDepth 65536 in
set_option maxHeartbeats 40000000 in
theorem rm0_1 (l : Launch) (Z : State) (a0 : Array Value) (hw : ∀ d ∈ tables_1, d.before a0 Z = true) (ws : List Jvm.Cond) (p1 : Int32) (w_DAYS : Addr) (w_ENERGY : Addr) (w_ON_PEAK_ENERGY : Addr) (w_OFF_PEAK_ENERGY : Addr) (w_BILLING_DEMAND_DAYS : Addr) (w_METERED_DEMAND_DAYS : Addr) (w_FIXTURE_DAYS : Addr) (w_HIGHEST_HOUR_ENERGY : Addr) (w_GAS_INDEXED_ENERGY : Addr) (w_POOL_PRICED_ENERGY : Addr) (w_ISO_COSTS : Addr) (w_DISTRIBUTION_ACCESS_CHARGES : Addr) (h0 : Heap) (n0 : Nat) (OL0 : Old Z n0 h0) (pr1 : Sta Z Z.heap "com/example/tarcal/tarcal/schedules/Basis" "DAYS" "Lcom/example/tarcal/tarcal/schedules/Basis;" (.ref w_DAYS)) (pr2 : Exa Z Z.heap w_DAYS "com/example/tarcal/tarcal/schedules/Basis") (pr3 : Sta Z Z.heap "com/example/tarcal/tarcal/schedules/Basis" "ENERGY" "Lcom/example/tarcal/tarcal/schedules/Basis;" (.ref w_ENERGY)) (pr4 : Exa Z Z.heap w_ENERGY "com/example/tarcal/tarcal/schedules/Basis") (pr5 : Sta Z Z.heap "com/example/tarcal/tarcal/schedules/Basis" "ON_PEAK_ENERGY" "Lcom/example/tarcal/tarcal/schedules/Basis;" (.ref w_ON_PEAK_ENERGY)) (pr6 : Exa Z Z.heap w_ON_PEAK_ENERGY "com/example/tarcal/tarcal/schedules/Basis") (pr7 : Sta Z Z.heap "com/example/tarcal/tarcal/schedules/Basis" "OFF_PEAK_ENERGY" "Lcom/example/tarcal/tarcal/schedules/Basis;" (.ref w_OFF_PEAK_ENERGY)) (pr8 : Exa Z Z.heap w_OFF_PEAK_ENERGY "com/example/tarcal/tarcal/schedules/Basis") (pr9 : Sta Z Z.heap "com/example/tarcal/tarcal/schedules/Basis" "BILLING_DEMAND_DAYS" "Lcom/example/tarcal/tarcal/schedules/Basis;" (.ref w_BILLING_DEMAND_DAYS)) (pr10 : Exa Z Z.heap w_BILLING_DEMAND_DAYS "com/example/tarcal/tarcal/schedules/Basis") (pr11 : Sta Z Z.heap "com/example/tarcal/tarcal/schedules/Basis" "METERED_DEMAND_DAYS" "Lcom/example/tarcal/tarcal/schedules/Basis;" (.ref w_METERED_DEMAND_DAYS)) (pr12 : Exa Z Z.heap w_METERED_DEMAND_DAYS "com/example/tarcal/tarcal/schedules/Basis") (pr13 : Sta Z Z.heap "com/example/tarcal/tarcal/schedules/Basis" "FIXTURE_DAYS" "Lcom/example/tarcal/tarcal/schedules/Basis;" (.ref w_FIXTURE_DAYS)) (pr14 : Exa Z Z.heap w_FIXTURE_DAYS "com/example/tarcal/tarcal/schedules/Basis") (pr15 : Sta Z Z.heap "com/example/tarcal/tarcal/schedules/Basis" "HIGHEST_HOUR_ENERGY" "Lcom/example/tarcal/tarcal/schedules/Basis;" (.ref w_HIGHEST_HOUR_ENERGY)) (pr16 : Exa Z Z.heap w_HIGHEST_HOUR_ENERGY "com/example/tarcal/tarcal/schedules/Basis") (pr17 : Sta Z Z.heap "com/example/tarcal/tarcal/schedules/Basis" "GAS_INDEXED_ENERGY" "Lcom/example/tarcal/tarcal/schedules/Basis;" (.ref w_GAS_INDEXED_ENERGY)) (pr18 : Exa Z Z.heap w_GAS_INDEXED_ENERGY "com/example/tarcal/tarcal/schedules/Basis") (pr19 : Sta Z Z.heap "com/example/tarcal/tarcal/schedules/Basis" "POOL_PRICED_ENERGY" "Lcom/example/tarcal/tarcal/schedules/Basis;" (.ref w_POOL_PRICED_ENERGY)) (pr20 : Exa Z Z.heap w_POOL_PRICED_ENERGY "com/example/tarcal/tarcal/schedules/Basis") (pr21 : Sta Z Z.heap "com/example/tarcal/tarcal/schedules/Basis" "ISO_COSTS" "Lcom/example/tarcal/tarcal/schedules/Basis;" (.ref w_ISO_COSTS)) (pr22 : Exa Z Z.heap w_ISO_COSTS "com/example/tarcal/tarcal/schedules/Basis") (pr23 : Sta Z Z.heap "com/example/tarcal/tarcal/schedules/Basis" "DISTRIBUTION_ACCESS_CHARGES" "Lcom/example/tarcal/tarcal/schedules/Basis;" (.ref w_DISTRIBUTION_ACCESS_CHARGES)) (pr24 : Exa Z Z.heap w_DISTRIBUTION_ACCESS_CHARGES "com/example/tarcal/tarcal/schedules/Basis") (pr25 : ((p1 &&& (2147483647 : Int32)) % (12 : Int32)) = (1 : Int32)) (pr26 : w_ENERGY ≠ w_HIGHEST_HOUR_ENERGY) (pr27 : w_ENERGY ≠ w_GAS_INDEXED_ENERGY) (pr28 : w_ENERGY ≠ w_POOL_PRICED_ENERGY) :
    MetFree l x (head1 (Jvm.Cond.code x code maxLocals ret :: ws) room_1) (fun a U => a = #[(.int p1)] ∧ Z.Warmed39 U.vm ∧ U.heap = h0) (fun _ _ _ _ _ => True) (fun _ U o U' => ∃ v L, o = .returned v ∧ Q0 n0 v L ∧ FrameEnd U o U' L 16 128) := by
  refine MetFree.of_bodySF (plainFor_of_name pn_1) hisR ?_
  intro p e s m args below meth c s₁ Bd hml0 hP hK
  obtain ⟨rfl, hZ, hh⟩ := hP
  have hx := Bd.exec
  have hby := Bd.bytes
  have hml : c.maxLocals = 6 := hml0
  have hown : s.vm.findClass "com/example/tarcal/tarcal/schedules/BasisPerPeriodPinLaw" = some m.cls := findClass_of_methodNamed Bd.named
  have hnm := (name_of_methodNamed Bd.named Bd.method).1
  have X0 : Stand p l e room_1 s m #[(.int p1)] below meth c s₁ [] 0 0 := Stand.of_body Bd
  have e0 : s₁.heap = h0 := by rw [← hh, Bd.state]; rfl
  have N0 := Fr.nil n0
  have pre0 : ∀ t, Steps p.tables e below (s₁.setTop (mkF m 0 #[.val (.int p1), .unset, .unset, .unset, .unset, .unset] [])) t → Steps p.tables e below (s₁.setTop (entryFrame m #[(.int p1)] maxLocals)) t := fun t k => castTop (ef_0_1 m p1) k
  obtain ⟨T1, h1, k1, X1, e1, E1, A1, O1, st1⟩ := newR X0 hx hZ hown (wd0 hw) (wd1 hw) e0 (g := (mkF m 2 #[.val (.int p1), .unset, .unset, .unset, .unset, .unset] [(.int (12 : Int32))])) rfl (hb hby at_2) rfl (by decide) (cap := 12) (by decide) (by decide) (by decide) (by decide)
  obtain ⟨b1, g1⟩ : ∃ z, z = h0.size := ⟨_, rfl⟩
  rw [← g1] at A1 st1
  have V1 : Arv Z h1 b1 k1 (.object "com/example/tarcal/tarcal/schedules/Basis") (12 : Int32) [.null, .null, .null, .null, .null, .null, .null, .null, .null, .null, .null, .null] .null := (Arv.new A1 (by decide)).pad (pad_rep [] .null 12)
  have g_b1 : n0 ≤ b1 := (Nat.le_trans (Nat.le_trans (Nat.le_of_eq OL0.1.symm) OL0.2.1) (Nat.le_of_eq g1.symm))
  have sz_b1 : h0.size ≤ b1 := (Nat.le_trans (Keep.refl h0 []).1 (Nat.le_of_eq g1.symm))
  have KK1 : Keep h0 h1 [] := (Keep.refl h0 []).ext E1
  have OL1 := OL0.ext E1
  obtain ⟨T2, X2, e2, st2⟩ := getS2 X1 hx hZ hown (host := "") (Or.inl (wd2 hw)) Via.refl e1 (pr1.ext OL1.2) (g := (mkF m 7 #[.val (.int p1), .unset, .unset, .unset, .unset, .unset] [(.int (0 : Int32)), (.ref b1), (.ref b1)])) rfl (hb hby at_7)
  obtain ⟨cl3, Ar3, q3, S3, M3, Hs3, G3⟩ := V1
  have hin3 : ¬ ((0 : Int32) < 0 ∨ cl3.slots.size ≤ ((0 : Int32)).toNatClampNeg) := inb_of S3 ⟨by decide, by decide⟩
  obtain ⟨T4, h4, X4, e4, W4, st4⟩ := stR X2 hx hZ e2 Ar3 (j := (0 : Int32)) hin3 rfl (Sto.ofV Ar3 q3 O1 (Ins.self (pr2.ext OL1.2))) (g := (mkF m 10 #[.val (.int p1), .unset, .unset, .unset, .unset, .unset] [(.ref w_DAYS), (.int (0 : Int32)), (.ref b1), (.ref b1)])) rfl rfl (hb hby at_10)
  have V4 : Arv Z h4 b1 k1 (.object "com/example/tarcal/tarcal/schedules/Basis") (12 : Int32) [(.ref w_DAYS), .null, .null, .null, .null, .null, .null, .null, .null, .null, .null, .null] .null := Arv.set Ar3 q3 S3 M3 Hs3 G3 rfl W4 0 rfl (Nat.le_of_ble_eq_true rfl)
  have KK4 : Keep h0 h4 [] := KK1.wr W4 (Or.inr sz_b1)
  have OL4 := OL1.wr W4 g_b1
  have N4 := Fr.snoc X4 N0 g_b1
  obtain ⟨T5, X5, e5, st5⟩ := getS2 X4 hx hZ hown (host := "") (Or.inl (wd6 hw)) Via.refl e4 (pr3.ext OL4.2) (g := (mkF m 13 #[.val (.int p1), .unset, .unset, .unset, .unset, .unset] [(.int (1 : Int32)), (.ref b1), (.ref b1)])) rfl (hb hby at_13)
  obtain ⟨cl6, Ar6, q6, S6, M6, Hs6, G6⟩ := V4
  have hin6 : ¬ ((1 : Int32) < 0 ∨ cl6.slots.size ≤ ((1 : Int32)).toNatClampNeg) := inb_of S6 ⟨by decide, by decide⟩
  obtain ⟨T7, h7, X7, e7, W7, st7⟩ := stR X5 hx hZ e5 Ar6 (j := (1 : Int32)) hin6 rfl (Sto.ofV Ar6 q6 O1 (Ins.self (pr4.ext OL4.2))) (g := (mkF m 16 #[.val (.int p1), .unset, .unset, .unset, .unset, .unset] [(.ref w_ENERGY), (.int (1 : Int32)), (.ref b1), (.ref b1)])) rfl rfl (hb hby at_16)
  have V7 : Arv Z h7 b1 k1 (.object "com/example/tarcal/tarcal/schedules/Basis") (12 : Int32) [(.ref w_DAYS), (.ref w_ENERGY), .null, .null, .null, .null, .null, .null, .null, .null, .null, .null] .null := Arv.set Ar6 q6 S6 M6 Hs6 G6 rfl W7 1 rfl (Nat.le_of_ble_eq_true rfl)
  have KK7 : Keep h0 h7 [] := KK4.wr W7 (Or.inr sz_b1)
  have OL7 := OL4.wr W7 g_b1
  have N7 := Fr.snoc X7 N4 g_b1
  obtain ⟨T8, X8, e8, st8⟩ := getS2 X7 hx hZ hown (host := "") (Or.inl (wd8 hw)) Via.refl e7 (pr5.ext OL7.2) (g := (mkF m 19 #[.val (.int p1), .unset, .unset, .unset, .unset, .unset] [(.int (2 : Int32)), (.ref b1), (.ref b1)])) rfl (hb hby at_19)
  obtain ⟨cl9, Ar9, q9, S9, M9, Hs9, G9⟩ := V7
  have hin9 : ¬ ((2 : Int32) < 0 ∨ cl9.slots.size ≤ ((2 : Int32)).toNatClampNeg) := inb_of S9 ⟨by decide, by decide⟩
  obtain ⟨T10, h10, X10, e10, W10, st10⟩ := stR X8 hx hZ e8 Ar9 (j := (2 : Int32)) hin9 rfl (Sto.ofV Ar9 q9 O1 (Ins.self (pr6.ext OL7.2))) (g := (mkF m 22 #[.val (.int p1), .unset, .unset, .unset, .unset, .unset] [(.ref w_ON_PEAK_ENERGY), (.int (2 : Int32)), (.ref b1), (.ref b1)])) rfl rfl (hb hby at_22)
  have V10 : Arv Z h10 b1 k1 (.object "com/example/tarcal/tarcal/schedules/Basis") (12 : Int32) [(.ref w_DAYS), (.ref w_ENERGY), (.ref w_ON_PEAK_ENERGY), .null, .null, .null, .null, .null, .null, .null, .null, .null] .null := Arv.set Ar9 q9 S9 M9 Hs9 G9 rfl W10 2 rfl (Nat.le_of_ble_eq_true rfl)
  have KK10 : Keep h0 h10 [] := KK7.wr W10 (Or.inr sz_b1)
  have OL10 := OL7.wr W10 g_b1
  have N10 := Fr.snoc X10 N7 g_b1
  obtain ⟨T11, X11, e11, st11⟩ := getS2 X10 hx hZ hown (host := "") (Or.inl (wd10 hw)) Via.refl e10 (pr7.ext OL10.2) (g := (mkF m 25 #[.val (.int p1), .unset, .unset, .unset, .unset, .unset] [(.int (3 : Int32)), (.ref b1), (.ref b1)])) rfl (hb hby at_25)
  obtain ⟨cl12, Ar12, q12, S12, M12, Hs12, G12⟩ := V10
  have hin12 : ¬ ((3 : Int32) < 0 ∨ cl12.slots.size ≤ ((3 : Int32)).toNatClampNeg) := inb_of S12 ⟨by decide, by decide⟩
  obtain ⟨T13, h13, X13, e13, W13, st13⟩ := stR X11 hx hZ e11 Ar12 (j := (3 : Int32)) hin12 rfl (Sto.ofV Ar12 q12 O1 (Ins.self (pr8.ext OL10.2))) (g := (mkF m 28 #[.val (.int p1), .unset, .unset, .unset, .unset, .unset] [(.ref w_OFF_PEAK_ENERGY), (.int (3 : Int32)), (.ref b1), (.ref b1)])) rfl rfl (hb hby at_28)
  have V13 : Arv Z h13 b1 k1 (.object "com/example/tarcal/tarcal/schedules/Basis") (12 : Int32) [(.ref w_DAYS), (.ref w_ENERGY), (.ref w_ON_PEAK_ENERGY), (.ref w_OFF_PEAK_ENERGY), .null, .null, .null, .null, .null, .null, .null, .null] .null := Arv.set Ar12 q12 S12 M12 Hs12 G12 rfl W13 3 rfl (Nat.le_of_ble_eq_true rfl)
  have KK13 : Keep h0 h13 [] := KK10.wr W13 (Or.inr sz_b1)
  have OL13 := OL10.wr W13 g_b1
  have N13 := Fr.snoc X13 N10 g_b1
  obtain ⟨T14, X14, e14, st14⟩ := getS2 X13 hx hZ hown (host := "") (Or.inl (wd12 hw)) Via.refl e13 (pr9.ext OL13.2) (g := (mkF m 31 #[.val (.int p1), .unset, .unset, .unset, .unset, .unset] [(.int (4 : Int32)), (.ref b1), (.ref b1)])) rfl (hb hby at_31)
  obtain ⟨cl15, Ar15, q15, S15, M15, Hs15, G15⟩ := V13
  have hin15 : ¬ ((4 : Int32) < 0 ∨ cl15.slots.size ≤ ((4 : Int32)).toNatClampNeg) := inb_of S15 ⟨by decide, by decide⟩
  obtain ⟨T16, h16, X16, e16, W16, st16⟩ := stR X14 hx hZ e14 Ar15 (j := (4 : Int32)) hin15 rfl (Sto.ofV Ar15 q15 O1 (Ins.self (pr10.ext OL13.2))) (g := (mkF m 34 #[.val (.int p1), .unset, .unset, .unset, .unset, .unset] [(.ref w_BILLING_DEMAND_DAYS), (.int (4 : Int32)), (.ref b1), (.ref b1)])) rfl rfl (hb hby at_34)
  have V16 : Arv Z h16 b1 k1 (.object "com/example/tarcal/tarcal/schedules/Basis") (12 : Int32) [(.ref w_DAYS), (.ref w_ENERGY), (.ref w_ON_PEAK_ENERGY), (.ref w_OFF_PEAK_ENERGY), (.ref w_BILLING_DEMAND_DAYS), .null, .null, .null, .null, .null, .null, .null] .null := Arv.set Ar15 q15 S15 M15 Hs15 G15 rfl W16 4 rfl (Nat.le_of_ble_eq_true rfl)
  have KK16 : Keep h0 h16 [] := KK13.wr W16 (Or.inr sz_b1)
  have OL16 := OL13.wr W16 g_b1
  have N16 := Fr.snoc X16 N13 g_b1
  obtain ⟨T17, X17, e17, st17⟩ := getS2 X16 hx hZ hown (host := "") (Or.inl (wd14 hw)) Via.refl e16 (pr11.ext OL16.2) (g := (mkF m 37 #[.val (.int p1), .unset, .unset, .unset, .unset, .unset] [(.int (5 : Int32)), (.ref b1), (.ref b1)])) rfl (hb hby at_37)
  obtain ⟨cl18, Ar18, q18, S18, M18, Hs18, G18⟩ := V16
  have hin18 : ¬ ((5 : Int32) < 0 ∨ cl18.slots.size ≤ ((5 : Int32)).toNatClampNeg) := inb_of S18 ⟨by decide, by decide⟩
  obtain ⟨T19, h19, X19, e19, W19, st19⟩ := stR X17 hx hZ e17 Ar18 (j := (5 : Int32)) hin18 rfl (Sto.ofV Ar18 q18 O1 (Ins.self (pr12.ext OL16.2))) (g := (mkF m 40 #[.val (.int p1), .unset, .unset, .unset, .unset, .unset] [(.ref w_METERED_DEMAND_DAYS), (.int (5 : Int32)), (.ref b1), (.ref b1)])) rfl rfl (hb hby at_40)
  have V19 : Arv Z h19 b1 k1 (.object "com/example/tarcal/tarcal/schedules/Basis") (12 : Int32) [(.ref w_DAYS), (.ref w_ENERGY), (.ref w_ON_PEAK_ENERGY), (.ref w_OFF_PEAK_ENERGY), (.ref w_BILLING_DEMAND_DAYS), (.ref w_METERED_DEMAND_DAYS), .null, .null, .null, .null, .null, .null] .null := Arv.set Ar18 q18 S18 M18 Hs18 G18 rfl W19 5 rfl (Nat.le_of_ble_eq_true rfl)
  have KK19 : Keep h0 h19 [] := KK16.wr W19 (Or.inr sz_b1)
  have OL19 := OL16.wr W19 g_b1
  have N19 := Fr.snoc X19 N16 g_b1
  obtain ⟨T20, X20, e20, st20⟩ := getS2 X19 hx hZ hown (host := "") (Or.inl (wd16 hw)) Via.refl e19 (pr13.ext OL19.2) (g := (mkF m 44 #[.val (.int p1), .unset, .unset, .unset, .unset, .unset] [(.int (6 : Int32)), (.ref b1), (.ref b1)])) rfl (hb hby at_44)
  obtain ⟨cl21, Ar21, q21, S21, M21, Hs21, G21⟩ := V19
  have hin21 : ¬ ((6 : Int32) < 0 ∨ cl21.slots.size ≤ ((6 : Int32)).toNatClampNeg) := inb_of S21 ⟨by decide, by decide⟩
  obtain ⟨T22, h22, X22, e22, W22, st22⟩ := stR X20 hx hZ e20 Ar21 (j := (6 : Int32)) hin21 rfl (Sto.ofV Ar21 q21 O1 (Ins.self (pr14.ext OL19.2))) (g := (mkF m 47 #[.val (.int p1), .unset, .unset, .unset, .unset, .unset] [(.ref w_FIXTURE_DAYS), (.int (6 : Int32)), (.ref b1), (.ref b1)])) rfl rfl (hb hby at_47)
  have V22 : Arv Z h22 b1 k1 (.object "com/example/tarcal/tarcal/schedules/Basis") (12 : Int32) [(.ref w_DAYS), (.ref w_ENERGY), (.ref w_ON_PEAK_ENERGY), (.ref w_OFF_PEAK_ENERGY), (.ref w_BILLING_DEMAND_DAYS), (.ref w_METERED_DEMAND_DAYS), (.ref w_FIXTURE_DAYS), .null, .null, .null, .null, .null] .null := Arv.set Ar21 q21 S21 M21 Hs21 G21 rfl W22 6 rfl (Nat.le_of_ble_eq_true rfl)
  have KK22 : Keep h0 h22 [] := KK19.wr W22 (Or.inr sz_b1)
  have OL22 := OL19.wr W22 g_b1
  have N22 := Fr.snoc X22 N19 g_b1
  obtain ⟨T23, X23, e23, st23⟩ := getS2 X22 hx hZ hown (host := "") (Or.inl (wd18 hw)) Via.refl e22 (pr15.ext OL22.2) (g := (mkF m 51 #[.val (.int p1), .unset, .unset, .unset, .unset, .unset] [(.int (7 : Int32)), (.ref b1), (.ref b1)])) rfl (hb hby at_51)
  obtain ⟨cl24, Ar24, q24, S24, M24, Hs24, G24⟩ := V22
  have hin24 : ¬ ((7 : Int32) < 0 ∨ cl24.slots.size ≤ ((7 : Int32)).toNatClampNeg) := inb_of S24 ⟨by decide, by decide⟩
  obtain ⟨T25, h25, X25, e25, W25, st25⟩ := stR X23 hx hZ e23 Ar24 (j := (7 : Int32)) hin24 rfl (Sto.ofV Ar24 q24 O1 (Ins.self (pr16.ext OL22.2))) (g := (mkF m 54 #[.val (.int p1), .unset, .unset, .unset, .unset, .unset] [(.ref w_HIGHEST_HOUR_ENERGY), (.int (7 : Int32)), (.ref b1), (.ref b1)])) rfl rfl (hb hby at_54)
  have V25 : Arv Z h25 b1 k1 (.object "com/example/tarcal/tarcal/schedules/Basis") (12 : Int32) [(.ref w_DAYS), (.ref w_ENERGY), (.ref w_ON_PEAK_ENERGY), (.ref w_OFF_PEAK_ENERGY), (.ref w_BILLING_DEMAND_DAYS), (.ref w_METERED_DEMAND_DAYS), (.ref w_FIXTURE_DAYS), (.ref w_HIGHEST_HOUR_ENERGY), .null, .null, .null, .null] .null := Arv.set Ar24 q24 S24 M24 Hs24 G24 rfl W25 7 rfl (Nat.le_of_ble_eq_true rfl)
  have KK25 : Keep h0 h25 [] := KK22.wr W25 (Or.inr sz_b1)
  have OL25 := OL22.wr W25 g_b1
  have N25 := Fr.snoc X25 N22 g_b1
  obtain ⟨T26, X26, e26, st26⟩ := getS2 X25 hx hZ hown (host := "") (Or.inl (wd20 hw)) Via.refl e25 (pr17.ext OL25.2) (g := (mkF m 58 #[.val (.int p1), .unset, .unset, .unset, .unset, .unset] [(.int (8 : Int32)), (.ref b1), (.ref b1)])) rfl (hb hby at_58)
  obtain ⟨cl27, Ar27, q27, S27, M27, Hs27, G27⟩ := V25
  have hin27 : ¬ ((8 : Int32) < 0 ∨ cl27.slots.size ≤ ((8 : Int32)).toNatClampNeg) := inb_of S27 ⟨by decide, by decide⟩
  obtain ⟨T28, h28, X28, e28, W28, st28⟩ := stR X26 hx hZ e26 Ar27 (j := (8 : Int32)) hin27 rfl (Sto.ofV Ar27 q27 O1 (Ins.self (pr18.ext OL25.2))) (g := (mkF m 61 #[.val (.int p1), .unset, .unset, .unset, .unset, .unset] [(.ref w_GAS_INDEXED_ENERGY), (.int (8 : Int32)), (.ref b1), (.ref b1)])) rfl rfl (hb hby at_61)
  have V28 : Arv Z h28 b1 k1 (.object "com/example/tarcal/tarcal/schedules/Basis") (12 : Int32) [(.ref w_DAYS), (.ref w_ENERGY), (.ref w_ON_PEAK_ENERGY), (.ref w_OFF_PEAK_ENERGY), (.ref w_BILLING_DEMAND_DAYS), (.ref w_METERED_DEMAND_DAYS), (.ref w_FIXTURE_DAYS), (.ref w_HIGHEST_HOUR_ENERGY), (.ref w_GAS_INDEXED_ENERGY), .null, .null, .null] .null := Arv.set Ar27 q27 S27 M27 Hs27 G27 rfl W28 8 rfl (Nat.le_of_ble_eq_true rfl)
  have KK28 : Keep h0 h28 [] := KK25.wr W28 (Or.inr sz_b1)
  have OL28 := OL25.wr W28 g_b1
  have N28 := Fr.snoc X28 N25 g_b1
  obtain ⟨T29, X29, e29, st29⟩ := getS2 X28 hx hZ hown (host := "") (Or.inl (wd22 hw)) Via.refl e28 (pr19.ext OL28.2) (g := (mkF m 65 #[.val (.int p1), .unset, .unset, .unset, .unset, .unset] [(.int (9 : Int32)), (.ref b1), (.ref b1)])) rfl (hb hby at_65)
  obtain ⟨cl30, Ar30, q30, S30, M30, Hs30, G30⟩ := V28
  have hin30 : ¬ ((9 : Int32) < 0 ∨ cl30.slots.size ≤ ((9 : Int32)).toNatClampNeg) := inb_of S30 ⟨by decide, by decide⟩
  obtain ⟨T31, h31, X31, e31, W31, st31⟩ := stR X29 hx hZ e29 Ar30 (j := (9 : Int32)) hin30 rfl (Sto.ofV Ar30 q30 O1 (Ins.self (pr20.ext OL28.2))) (g := (mkF m 68 #[.val (.int p1), .unset, .unset, .unset, .unset, .unset] [(.ref w_POOL_PRICED_ENERGY), (.int (9 : Int32)), (.ref b1), (.ref b1)])) rfl rfl (hb hby at_68)
  have V31 : Arv Z h31 b1 k1 (.object "com/example/tarcal/tarcal/schedules/Basis") (12 : Int32) [(.ref w_DAYS), (.ref w_ENERGY), (.ref w_ON_PEAK_ENERGY), (.ref w_OFF_PEAK_ENERGY), (.ref w_BILLING_DEMAND_DAYS), (.ref w_METERED_DEMAND_DAYS), (.ref w_FIXTURE_DAYS), (.ref w_HIGHEST_HOUR_ENERGY), (.ref w_GAS_INDEXED_ENERGY), (.ref w_POOL_PRICED_ENERGY), .null, .null] .null := Arv.set Ar30 q30 S30 M30 Hs30 G30 rfl W31 9 rfl (Nat.le_of_ble_eq_true rfl)
  have KK31 : Keep h0 h31 [] := KK28.wr W31 (Or.inr sz_b1)
  have OL31 := OL28.wr W31 g_b1
  have N31 := Fr.snoc X31 N28 g_b1
  obtain ⟨T32, X32, e32, st32⟩ := getS2 X31 hx hZ hown (host := "") (Or.inl (wd24 hw)) Via.refl e31 (pr21.ext OL31.2) (g := (mkF m 72 #[.val (.int p1), .unset, .unset, .unset, .unset, .unset] [(.int (10 : Int32)), (.ref b1), (.ref b1)])) rfl (hb hby at_72)
  obtain ⟨cl33, Ar33, q33, S33, M33, Hs33, G33⟩ := V31
  have hin33 : ¬ ((10 : Int32) < 0 ∨ cl33.slots.size ≤ ((10 : Int32)).toNatClampNeg) := inb_of S33 ⟨by decide, by decide⟩
  obtain ⟨T34, h34, X34, e34, W34, st34⟩ := stR X32 hx hZ e32 Ar33 (j := (10 : Int32)) hin33 rfl (Sto.ofV Ar33 q33 O1 (Ins.self (pr22.ext OL31.2))) (g := (mkF m 75 #[.val (.int p1), .unset, .unset, .unset, .unset, .unset] [(.ref w_ISO_COSTS), (.int (10 : Int32)), (.ref b1), (.ref b1)])) rfl rfl (hb hby at_75)
  have V34 : Arv Z h34 b1 k1 (.object "com/example/tarcal/tarcal/schedules/Basis") (12 : Int32) [(.ref w_DAYS), (.ref w_ENERGY), (.ref w_ON_PEAK_ENERGY), (.ref w_OFF_PEAK_ENERGY), (.ref w_BILLING_DEMAND_DAYS), (.ref w_METERED_DEMAND_DAYS), (.ref w_FIXTURE_DAYS), (.ref w_HIGHEST_HOUR_ENERGY), (.ref w_GAS_INDEXED_ENERGY), (.ref w_POOL_PRICED_ENERGY), (.ref w_ISO_COSTS), .null] .null := Arv.set Ar33 q33 S33 M33 Hs33 G33 rfl W34 10 rfl (Nat.le_of_ble_eq_true rfl)
  have KK34 : Keep h0 h34 [] := KK31.wr W34 (Or.inr sz_b1)
  have OL34 := OL31.wr W34 g_b1
  have N34 := Fr.snoc X34 N31 g_b1
  obtain ⟨T35, X35, e35, st35⟩ := getS2 X34 hx hZ hown (host := "") (Or.inl (wd26 hw)) Via.refl e34 (pr23.ext OL34.2) (g := (mkF m 79 #[.val (.int p1), .unset, .unset, .unset, .unset, .unset] [(.int (11 : Int32)), (.ref b1), (.ref b1)])) rfl (hb hby at_79)
  obtain ⟨cl36, Ar36, q36, S36, M36, Hs36, G36⟩ := V34
  have hin36 : ¬ ((11 : Int32) < 0 ∨ cl36.slots.size ≤ ((11 : Int32)).toNatClampNeg) := inb_of S36 ⟨by decide, by decide⟩
  obtain ⟨T37, h37, X37, e37, W37, st37⟩ := stR X35 hx hZ e35 Ar36 (j := (11 : Int32)) hin36 rfl (Sto.ofV Ar36 q36 O1 (Ins.self (pr24.ext OL34.2))) (g := (mkF m 82 #[.val (.int p1), .unset, .unset, .unset, .unset, .unset] [(.ref w_DISTRIBUTION_ACCESS_CHARGES), (.int (11 : Int32)), (.ref b1), (.ref b1)])) rfl rfl (hb hby at_82)
  have V37 : Arv Z h37 b1 k1 (.object "com/example/tarcal/tarcal/schedules/Basis") (12 : Int32) [(.ref w_DAYS), (.ref w_ENERGY), (.ref w_ON_PEAK_ENERGY), (.ref w_OFF_PEAK_ENERGY), (.ref w_BILLING_DEMAND_DAYS), (.ref w_METERED_DEMAND_DAYS), (.ref w_FIXTURE_DAYS), (.ref w_HIGHEST_HOUR_ENERGY), (.ref w_GAS_INDEXED_ENERGY), (.ref w_POOL_PRICED_ENERGY), (.ref w_ISO_COSTS), (.ref w_DISTRIBUTION_ACCESS_CHARGES)] .null := Arv.set Ar36 q36 S36 M36 Hs36 G36 rfl W37 11 rfl (Nat.le_of_ble_eq_true rfl)
  have KK37 : Keep h0 h37 [] := KK34.wr W37 (Or.inr sz_b1)
  have OL37 := OL34.wr W37 g_b1
  have N37 := Fr.snoc X37 N34 g_b1
  obtain ⟨cl38, Ar38, -, S38, -, Hs38, -⟩ := V37
  have hin38 : ¬ ((1 : Int32) < 0 ∨ cl38.slots.size ≤ ((1 : Int32)).toNatClampNeg) := inb_of S38 ⟨by decide, by decide⟩
  have hat38 : cl38.slots[((1 : Int32)).toNatClampNeg]? = some (.ref w_ENERGY) := Hs38.at hin38 rfl
  obtain ⟨cq39, kq39, q39a, q39b, q39c⟩ := isOf hZ e37 (pr4.ext OL37.2)
  obtain ⟨_, _, ⟨T39, L39, k39, n39⟩, -, X39, ⟨Lc39, hQ39, l39, y39, z39⟩, st39⟩ := X37.virtualBack hx (y := (⟨"com/example/tarcal/tarcal/schedules/Basis", "perPeriod", "()Z"⟩ : MethodName)) (z := (⟨"com/example/tarcal/tarcal/schedules/Basis", "perPeriod", "()Z"⟩ : MethodName)) hown (mvT hZ (wd29 hw)) (mvT hZ (wd30 hw)) (notFace_of_selects (args := #[]) (mvT hZ (wd32 hw))) (mvT hZ (wd32 hw)) (mvT hZ (wd31 hw)) (by decide) (backOf (W := 0) (rm1_0 l Z a0 hw [] w_ENERGY w_HIGHEST_HOUR_ENERGY w_GAS_INDEXED_ENERGY w_POOL_PRICED_ENERGY h37 n0 OL37 pr15 pr26 pr17 pr27 pr19 pr28) hZ (wd33 hw) (wd3 hw) (by decide) (by decide)) q39a q39c (g := (mkF m 122 #[.val (.int p1), .val (.ref b1), .val (.int (1 : Int32)), .val (.ref w_ENERGY), .val (.int (0 : Int32)), .unset] [(.ref w_ENERGY)])) rfl (by rw [hml]; rfl) (Steps.refl _) (argsL := []) (rest := []) (lenOf pd_0 rfl) rfl (by show 2 * 0 + _ ≤ _; exact Nat.le_of_eq rfl) (hb hby at_122) (fun _ _ => ⟨rfl, e37, (by decide : 1 + 0 ≤ _), (by decide : 12 + 0 ≤ _)⟩)
  dsimp only [Pt.U, Pt.locs, Pt.cells, Pt.slots] at X39 l39 y39 z39 st39 hQ39
  subst l39 y39 z39
  obtain ⟨rfl, Nq39, ec39⟩ := hQ39
  have N39 := Fr.app N37 Nq39
  obtain ⟨fs, hr, hrun, hended, hW, hsame⟩ := X39.leave (v := some (.int (1 : Int32))) (fun h => by rw [Bd.returns] at h; cases h)
  refine ⟨_, _, pre0 _ ?_, hrun, hended, _, _, rfl, ?_, ⟨_, rfl⟩, hW, hsame.mono (by decide) (by decide)⟩
  · show Steps p.tables e below (s₁.setTop (mkF m 0 #[.val (.int p1), .unset, .unset, .unset, .unset, .unset] [])) _
    refine XS.bipush X0.here hx rfl (hb hby at_0) ?_
    show Steps p.tables e below (s₁.setTop (mkF m 2 #[.val (.int p1), .unset, .unset, .unset, .unset, .unset] [(.int (12 : Int32))])) _
    refine st1 _ ?_
    show Steps p.tables e below (T1.setTop (mkF m 5 #[.val (.int p1), .unset, .unset, .unset, .unset, .unset] [(.ref b1)])) _
    refine XS.dup X1.here hx rfl (hb hby at_5) rfl rfl ?_
    show Steps p.tables e below (T1.setTop (mkF m 6 #[.val (.int p1), .unset, .unset, .unset, .unset, .unset] [(.ref b1), (.ref b1)])) _
    refine XS.iconst X1.here hx rfl (hb hby at_6) ?_
    show Steps p.tables e below (T1.setTop (mkF m 7 #[.val (.int p1), .unset, .unset, .unset, .unset, .unset] [(.int (0 : Int32)), (.ref b1), (.ref b1)])) _
    refine st2 _ ?_
    show Steps p.tables e below (T2.setTop (mkF m 10 #[.val (.int p1), .unset, .unset, .unset, .unset, .unset] [(.ref w_DAYS), (.int (0 : Int32)), (.ref b1), (.ref b1)])) _
    refine st4 _ ?_
    show Steps p.tables e below (T4.setTop (mkF m 11 #[.val (.int p1), .unset, .unset, .unset, .unset, .unset] [(.ref b1)])) _
    refine XS.dup X4.here hx rfl (hb hby at_11) rfl rfl ?_
    show Steps p.tables e below (T4.setTop (mkF m 12 #[.val (.int p1), .unset, .unset, .unset, .unset, .unset] [(.ref b1), (.ref b1)])) _
    refine XS.iconst X4.here hx rfl (hb hby at_12) ?_
    show Steps p.tables e below (T4.setTop (mkF m 13 #[.val (.int p1), .unset, .unset, .unset, .unset, .unset] [(.int (1 : Int32)), (.ref b1), (.ref b1)])) _
    refine st5 _ ?_
    show Steps p.tables e below (T5.setTop (mkF m 16 #[.val (.int p1), .unset, .unset, .unset, .unset, .unset] [(.ref w_ENERGY), (.int (1 : Int32)), (.ref b1), (.ref b1)])) _
    refine st7 _ ?_
    show Steps p.tables e below (T7.setTop (mkF m 17 #[.val (.int p1), .unset, .unset, .unset, .unset, .unset] [(.ref b1)])) _
    refine XS.dup X7.here hx rfl (hb hby at_17) rfl rfl ?_
    show Steps p.tables e below (T7.setTop (mkF m 18 #[.val (.int p1), .unset, .unset, .unset, .unset, .unset] [(.ref b1), (.ref b1)])) _
    refine XS.iconst X7.here hx rfl (hb hby at_18) ?_
    show Steps p.tables e below (T7.setTop (mkF m 19 #[.val (.int p1), .unset, .unset, .unset, .unset, .unset] [(.int (2 : Int32)), (.ref b1), (.ref b1)])) _
    refine st8 _ ?_
    show Steps p.tables e below (T8.setTop (mkF m 22 #[.val (.int p1), .unset, .unset, .unset, .unset, .unset] [(.ref w_ON_PEAK_ENERGY), (.int (2 : Int32)), (.ref b1), (.ref b1)])) _
    refine st10 _ ?_
    show Steps p.tables e below (T10.setTop (mkF m 23 #[.val (.int p1), .unset, .unset, .unset, .unset, .unset] [(.ref b1)])) _
    refine XS.dup X10.here hx rfl (hb hby at_23) rfl rfl ?_
    show Steps p.tables e below (T10.setTop (mkF m 24 #[.val (.int p1), .unset, .unset, .unset, .unset, .unset] [(.ref b1), (.ref b1)])) _
    refine XS.iconst X10.here hx rfl (hb hby at_24) ?_
    show Steps p.tables e below (T10.setTop (mkF m 25 #[.val (.int p1), .unset, .unset, .unset, .unset, .unset] [(.int (3 : Int32)), (.ref b1), (.ref b1)])) _
    refine st11 _ ?_
    show Steps p.tables e below (T11.setTop (mkF m 28 #[.val (.int p1), .unset, .unset, .unset, .unset, .unset] [(.ref w_OFF_PEAK_ENERGY), (.int (3 : Int32)), (.ref b1), (.ref b1)])) _
    refine st13 _ ?_
    show Steps p.tables e below (T13.setTop (mkF m 29 #[.val (.int p1), .unset, .unset, .unset, .unset, .unset] [(.ref b1)])) _
    refine XS.dup X13.here hx rfl (hb hby at_29) rfl rfl ?_
    show Steps p.tables e below (T13.setTop (mkF m 30 #[.val (.int p1), .unset, .unset, .unset, .unset, .unset] [(.ref b1), (.ref b1)])) _
    refine XS.iconst X13.here hx rfl (hb hby at_30) ?_
    show Steps p.tables e below (T13.setTop (mkF m 31 #[.val (.int p1), .unset, .unset, .unset, .unset, .unset] [(.int (4 : Int32)), (.ref b1), (.ref b1)])) _
    refine st14 _ ?_
    show Steps p.tables e below (T14.setTop (mkF m 34 #[.val (.int p1), .unset, .unset, .unset, .unset, .unset] [(.ref w_BILLING_DEMAND_DAYS), (.int (4 : Int32)), (.ref b1), (.ref b1)])) _
    refine st16 _ ?_
    show Steps p.tables e below (T16.setTop (mkF m 35 #[.val (.int p1), .unset, .unset, .unset, .unset, .unset] [(.ref b1)])) _
    refine XS.dup X16.here hx rfl (hb hby at_35) rfl rfl ?_
    show Steps p.tables e below (T16.setTop (mkF m 36 #[.val (.int p1), .unset, .unset, .unset, .unset, .unset] [(.ref b1), (.ref b1)])) _
    refine XS.iconst X16.here hx rfl (hb hby at_36) ?_
    show Steps p.tables e below (T16.setTop (mkF m 37 #[.val (.int p1), .unset, .unset, .unset, .unset, .unset] [(.int (5 : Int32)), (.ref b1), (.ref b1)])) _
    refine st17 _ ?_
    show Steps p.tables e below (T17.setTop (mkF m 40 #[.val (.int p1), .unset, .unset, .unset, .unset, .unset] [(.ref w_METERED_DEMAND_DAYS), (.int (5 : Int32)), (.ref b1), (.ref b1)])) _
    refine st19 _ ?_
    show Steps p.tables e below (T19.setTop (mkF m 41 #[.val (.int p1), .unset, .unset, .unset, .unset, .unset] [(.ref b1)])) _
    refine XS.dup X19.here hx rfl (hb hby at_41) rfl rfl ?_
    show Steps p.tables e below (T19.setTop (mkF m 42 #[.val (.int p1), .unset, .unset, .unset, .unset, .unset] [(.ref b1), (.ref b1)])) _
    refine XS.bipush X19.here hx rfl (hb hby at_42) ?_
    show Steps p.tables e below (T19.setTop (mkF m 44 #[.val (.int p1), .unset, .unset, .unset, .unset, .unset] [(.int (6 : Int32)), (.ref b1), (.ref b1)])) _
    refine st20 _ ?_
    show Steps p.tables e below (T20.setTop (mkF m 47 #[.val (.int p1), .unset, .unset, .unset, .unset, .unset] [(.ref w_FIXTURE_DAYS), (.int (6 : Int32)), (.ref b1), (.ref b1)])) _
    refine st22 _ ?_
    show Steps p.tables e below (T22.setTop (mkF m 48 #[.val (.int p1), .unset, .unset, .unset, .unset, .unset] [(.ref b1)])) _
    refine XS.dup X22.here hx rfl (hb hby at_48) rfl rfl ?_
    show Steps p.tables e below (T22.setTop (mkF m 49 #[.val (.int p1), .unset, .unset, .unset, .unset, .unset] [(.ref b1), (.ref b1)])) _
    refine XS.bipush X22.here hx rfl (hb hby at_49) ?_
    show Steps p.tables e below (T22.setTop (mkF m 51 #[.val (.int p1), .unset, .unset, .unset, .unset, .unset] [(.int (7 : Int32)), (.ref b1), (.ref b1)])) _
    refine st23 _ ?_
    show Steps p.tables e below (T23.setTop (mkF m 54 #[.val (.int p1), .unset, .unset, .unset, .unset, .unset] [(.ref w_HIGHEST_HOUR_ENERGY), (.int (7 : Int32)), (.ref b1), (.ref b1)])) _
    refine st25 _ ?_
    show Steps p.tables e below (T25.setTop (mkF m 55 #[.val (.int p1), .unset, .unset, .unset, .unset, .unset] [(.ref b1)])) _
    refine XS.dup X25.here hx rfl (hb hby at_55) rfl rfl ?_
    show Steps p.tables e below (T25.setTop (mkF m 56 #[.val (.int p1), .unset, .unset, .unset, .unset, .unset] [(.ref b1), (.ref b1)])) _
    refine XS.bipush X25.here hx rfl (hb hby at_56) ?_
    show Steps p.tables e below (T25.setTop (mkF m 58 #[.val (.int p1), .unset, .unset, .unset, .unset, .unset] [(.int (8 : Int32)), (.ref b1), (.ref b1)])) _
    refine st26 _ ?_
    show Steps p.tables e below (T26.setTop (mkF m 61 #[.val (.int p1), .unset, .unset, .unset, .unset, .unset] [(.ref w_GAS_INDEXED_ENERGY), (.int (8 : Int32)), (.ref b1), (.ref b1)])) _
    refine st28 _ ?_
    show Steps p.tables e below (T28.setTop (mkF m 62 #[.val (.int p1), .unset, .unset, .unset, .unset, .unset] [(.ref b1)])) _
    refine XS.dup X28.here hx rfl (hb hby at_62) rfl rfl ?_
    show Steps p.tables e below (T28.setTop (mkF m 63 #[.val (.int p1), .unset, .unset, .unset, .unset, .unset] [(.ref b1), (.ref b1)])) _
    refine XS.bipush X28.here hx rfl (hb hby at_63) ?_
    show Steps p.tables e below (T28.setTop (mkF m 65 #[.val (.int p1), .unset, .unset, .unset, .unset, .unset] [(.int (9 : Int32)), (.ref b1), (.ref b1)])) _
    refine st29 _ ?_
    show Steps p.tables e below (T29.setTop (mkF m 68 #[.val (.int p1), .unset, .unset, .unset, .unset, .unset] [(.ref w_POOL_PRICED_ENERGY), (.int (9 : Int32)), (.ref b1), (.ref b1)])) _
    refine st31 _ ?_
    show Steps p.tables e below (T31.setTop (mkF m 69 #[.val (.int p1), .unset, .unset, .unset, .unset, .unset] [(.ref b1)])) _
    refine XS.dup X31.here hx rfl (hb hby at_69) rfl rfl ?_
    show Steps p.tables e below (T31.setTop (mkF m 70 #[.val (.int p1), .unset, .unset, .unset, .unset, .unset] [(.ref b1), (.ref b1)])) _
    refine XS.bipush X31.here hx rfl (hb hby at_70) ?_
    show Steps p.tables e below (T31.setTop (mkF m 72 #[.val (.int p1), .unset, .unset, .unset, .unset, .unset] [(.int (10 : Int32)), (.ref b1), (.ref b1)])) _
    refine st32 _ ?_
    show Steps p.tables e below (T32.setTop (mkF m 75 #[.val (.int p1), .unset, .unset, .unset, .unset, .unset] [(.ref w_ISO_COSTS), (.int (10 : Int32)), (.ref b1), (.ref b1)])) _
    refine st34 _ ?_
    show Steps p.tables e below (T34.setTop (mkF m 76 #[.val (.int p1), .unset, .unset, .unset, .unset, .unset] [(.ref b1)])) _
    refine XS.dup X34.here hx rfl (hb hby at_76) rfl rfl ?_
    show Steps p.tables e below (T34.setTop (mkF m 77 #[.val (.int p1), .unset, .unset, .unset, .unset, .unset] [(.ref b1), (.ref b1)])) _
    refine XS.bipush X34.here hx rfl (hb hby at_77) ?_
    show Steps p.tables e below (T34.setTop (mkF m 79 #[.val (.int p1), .unset, .unset, .unset, .unset, .unset] [(.int (11 : Int32)), (.ref b1), (.ref b1)])) _
    refine st35 _ ?_
    show Steps p.tables e below (T35.setTop (mkF m 82 #[.val (.int p1), .unset, .unset, .unset, .unset, .unset] [(.ref w_DISTRIBUTION_ACCESS_CHARGES), (.int (11 : Int32)), (.ref b1), (.ref b1)])) _
    refine st37 _ ?_
    show Steps p.tables e below (T37.setTop (mkF m 83 #[.val (.int p1), .unset, .unset, .unset, .unset, .unset] [(.ref b1)])) _
    refine XS.astoreN X37.here hx rfl (hb hby at_83) rfl rfl (l' := #[.val (.int p1), .val (.ref b1), .unset, .unset, .unset, .unset]) rfl ?_
    show Steps p.tables e below (T37.setTop (mkF m 84 #[.val (.int p1), .val (.ref b1), .unset, .unset, .unset, .unset] [])) _
    refine XS.iloadN X37.here hx rfl (hb hby at_84) rfl ?_
    show Steps p.tables e below (T37.setTop (mkF m 85 #[.val (.int p1), .val (.ref b1), .unset, .unset, .unset, .unset] [(.int p1)])) _
    refine X37.ldcInt hx hown (mvT hZ (wd28 hw)) (g := (mkF m 85 #[.val (.int p1), .val (.ref b1), .unset, .unset, .unset, .unset] [(.int p1)])) rfl (hb hby at_85) _ ?_
    show Steps p.tables e below (T37.setTop (mkF m 87 #[.val (.int p1), .val (.ref b1), .unset, .unset, .unset, .unset] [(.int (2147483647 : Int32)), (.int p1)])) _
    refine XS.iand X37.here hx rfl (hb hby at_87) rfl ?_
    show Steps p.tables e below (T37.setTop (mkF m 88 #[.val (.int p1), .val (.ref b1), .unset, .unset, .unset, .unset] [(.int (p1 &&& (2147483647 : Int32)))])) _
    refine XS.bipush X37.here hx rfl (hb hby at_88) ?_
    show Steps p.tables e below (T37.setTop (mkF m 90 #[.val (.int p1), .val (.ref b1), .unset, .unset, .unset, .unset] [(.int (12 : Int32)), (.int (p1 &&& (2147483647 : Int32)))])) _
    refine iremM X37 hx rfl (hb hby at_90) rfl (by decide) ?_
    show Steps p.tables e below (T37.setTop (mkF m 91 #[.val (.int p1), .val (.ref b1), .unset, .unset, .unset, .unset] [(.int ((p1 &&& (2147483647 : Int32)) % (12 : Int32)))])) _
    rw [pr25]
    show Steps p.tables e below (T37.setTop (mkF m 91 #[.val (.int p1), .val (.ref b1), .unset, .unset, .unset, .unset] [(.int (1 : Int32))])) _
    refine XS.istoreN X37.here hx rfl (hb hby at_91) rfl (l' := #[.val (.int p1), .val (.ref b1), .val (.int (1 : Int32)), .unset, .unset, .unset]) rfl ?_
    show Steps p.tables e below (T37.setTop (mkF m 92 #[.val (.int p1), .val (.ref b1), .val (.int (1 : Int32)), .unset, .unset, .unset] [])) _
    refine XS.aloadN X37.here hx rfl (hb hby at_92) rfl rfl ?_
    show Steps p.tables e below (T37.setTop (mkF m 93 #[.val (.int p1), .val (.ref b1), .val (.int (1 : Int32)), .unset, .unset, .unset] [(.ref b1)])) _
    refine XS.iloadN X37.here hx rfl (hb hby at_93) rfl ?_
    show Steps p.tables e below (T37.setTop (mkF m 94 #[.val (.int p1), .val (.ref b1), .val (.int (1 : Int32)), .unset, .unset, .unset] [(.int (1 : Int32)), (.ref b1)])) _
    refine X37.aaload hx (j := (1 : Int32)) (v := (.ref w_ENERGY)) (by rw [e37]; exact Ar38.1) (State.isArrayOf_alike hZ.alike Ar38.2.1) rfl Ar38.2.2 hin38 hat38 (g := (mkF m 94 #[.val (.int p1), .val (.ref b1), .val (.int (1 : Int32)), .unset, .unset, .unset] [(.int (1 : Int32)), (.ref b1)])) rfl rfl (hb hby at_94) _ ?_
    show Steps p.tables e below (T37.setTop (mkF m 95 #[.val (.int p1), .val (.ref b1), .val (.int (1 : Int32)), .unset, .unset, .unset] [(.ref w_ENERGY)])) _
    refine XS.astoreN X37.here hx rfl (hb hby at_95) rfl rfl (l' := #[.val (.int p1), .val (.ref b1), .val (.int (1 : Int32)), .val (.ref w_ENERGY), .unset, .unset]) rfl ?_
    show Steps p.tables e below (T37.setTop (mkF m 96 #[.val (.int p1), .val (.ref b1), .val (.int (1 : Int32)), .val (.ref w_ENERGY), .unset, .unset] [])) _
    refine XS.iloadN X37.here hx rfl (hb hby at_96) rfl ?_
    show Steps p.tables e below (T37.setTop (mkF m 97 #[.val (.int p1), .val (.ref b1), .val (.int (1 : Int32)), .val (.ref w_ENERGY), .unset, .unset] [(.int (1 : Int32))])) _
    refine XS.bipush X37.here hx rfl (hb hby at_97) ?_
    show Steps p.tables e below (T37.setTop (mkF m 99 #[.val (.int p1), .val (.ref b1), .val (.int (1 : Int32)), .val (.ref w_ENERGY), .unset, .unset] [(.int (7 : Int32)), (.int (1 : Int32))])) _
    refine XS.icmpNo X37.here hx rfl (hb hby at_99) rfl (feq (by decide : ¬ ((1 : Int32) = (7 : Int32)))).1 ?_
    show Steps p.tables e below (T37.setTop (mkF m 102 #[.val (.int p1), .val (.ref b1), .val (.int (1 : Int32)), .val (.ref w_ENERGY), .unset, .unset] [])) _
    refine XS.iloadN X37.here hx rfl (hb hby at_102) rfl ?_
    show Steps p.tables e below (T37.setTop (mkF m 103 #[.val (.int p1), .val (.ref b1), .val (.int (1 : Int32)), .val (.ref w_ENERGY), .unset, .unset] [(.int (1 : Int32))])) _
    refine XS.bipush X37.here hx rfl (hb hby at_103) ?_
    show Steps p.tables e below (T37.setTop (mkF m 105 #[.val (.int p1), .val (.ref b1), .val (.int (1 : Int32)), .val (.ref w_ENERGY), .unset, .unset] [(.int (8 : Int32)), (.int (1 : Int32))])) _
    refine XS.icmpNo X37.here hx rfl (hb hby at_105) rfl (feq (by decide : ¬ ((1 : Int32) = (8 : Int32)))).1 ?_
    show Steps p.tables e below (T37.setTop (mkF m 108 #[.val (.int p1), .val (.ref b1), .val (.int (1 : Int32)), .val (.ref w_ENERGY), .unset, .unset] [])) _
    refine XS.iloadN X37.here hx rfl (hb hby at_108) rfl ?_
    show Steps p.tables e below (T37.setTop (mkF m 109 #[.val (.int p1), .val (.ref b1), .val (.int (1 : Int32)), .val (.ref w_ENERGY), .unset, .unset] [(.int (1 : Int32))])) _
    refine XS.bipush X37.here hx rfl (hb hby at_109) ?_
    show Steps p.tables e below (T37.setTop (mkF m 111 #[.val (.int p1), .val (.ref b1), .val (.int (1 : Int32)), .val (.ref w_ENERGY), .unset, .unset] [(.int (9 : Int32)), (.int (1 : Int32))])) _
    refine XS.icmpYes X37.here hx rfl (pc0 := 111) (pc' := 118) rfl (hb hby at_111) rfl (feq (by decide : ¬ ((1 : Int32) = (9 : Int32)))).2 (by decide) (by decide) ?_
    show Steps p.tables e below (T37.setTop (mkF m 118 #[.val (.int p1), .val (.ref b1), .val (.int (1 : Int32)), .val (.ref w_ENERGY), .unset, .unset] [])) _
    refine XS.iconst X37.here hx rfl (hb hby at_118) ?_
    show Steps p.tables e below (T37.setTop (mkF m 119 #[.val (.int p1), .val (.ref b1), .val (.int (1 : Int32)), .val (.ref w_ENERGY), .unset, .unset] [(.int (0 : Int32))])) _
    refine XS.istore X37.here hx rfl (hb hby at_119) rfl (l' := #[.val (.int p1), .val (.ref b1), .val (.int (1 : Int32)), .val (.ref w_ENERGY), .val (.int (0 : Int32)), .unset]) rfl ?_
    show Steps p.tables e below (T37.setTop (mkF m 121 #[.val (.int p1), .val (.ref b1), .val (.int (1 : Int32)), .val (.ref w_ENERGY), .val (.int (0 : Int32)), .unset] [])) _
    refine XS.aloadN X37.here hx rfl (hb hby at_121) rfl rfl ?_
    show Steps p.tables e below (T37.setTop (mkF m 122 #[.val (.int p1), .val (.ref b1), .val (.int (1 : Int32)), .val (.ref w_ENERGY), .val (.int (0 : Int32)), .unset] [(.ref w_ENERGY)])) _
    refine st39.trans ?_
    show Steps p.tables e below (T39.setTop (mkF m 125 #[.val (.int p1), .val (.ref b1), .val (.int (1 : Int32)), .val (.ref w_ENERGY), .val (.int (0 : Int32)), .unset] [(.int (0 : Int32))])) _
    refine XS.istore X39.here hx rfl (hb hby at_125) rfl (l' := #[.val (.int p1), .val (.ref b1), .val (.int (1 : Int32)), .val (.ref w_ENERGY), .val (.int (0 : Int32)), .val (.int (0 : Int32))]) rfl ?_
    show Steps p.tables e below (T39.setTop (mkF m 127 #[.val (.int p1), .val (.ref b1), .val (.int (1 : Int32)), .val (.ref w_ENERGY), .val (.int (0 : Int32)), .val (.int (0 : Int32))] [])) _
    refine XS.iload X39.here hx rfl (hb hby at_127) rfl ?_
    show Steps p.tables e below (T39.setTop (mkF m 129 #[.val (.int p1), .val (.ref b1), .val (.int (1 : Int32)), .val (.ref w_ENERGY), .val (.int (0 : Int32)), .val (.int (0 : Int32))] [(.int (0 : Int32))])) _
    refine XS.iload X39.here hx rfl (hb hby at_129) rfl ?_
    show Steps p.tables e below (T39.setTop (mkF m 131 #[.val (.int p1), .val (.ref b1), .val (.int (1 : Int32)), .val (.ref w_ENERGY), .val (.int (0 : Int32)), .val (.int (0 : Int32))] [(.int (0 : Int32)), (.int (0 : Int32))])) _
    refine XS.icmpYes X39.here hx rfl (pc0 := 131) (pc' := 136) rfl (hb hby at_131) rfl (teq (rfl : (0 : Int32) = (0 : Int32))).1 (by decide) (by decide) ?_
    show Steps p.tables e below (T39.setTop (mkF m 136 #[.val (.int p1), .val (.ref b1), .val (.int (1 : Int32)), .val (.ref w_ENERGY), .val (.int (0 : Int32)), .val (.int (0 : Int32))] [])) _
    refine XS.iload X39.here hx rfl (hb hby at_136) rfl ?_
    show Steps p.tables e below (T39.setTop (mkF m 138 #[.val (.int p1), .val (.ref b1), .val (.int (1 : Int32)), .val (.ref w_ENERGY), .val (.int (0 : Int32)), .val (.int (0 : Int32))] [(.int (0 : Int32))])) _
    refine XS.ifYes X39.here hx rfl (pc0 := 138) (pc' := 164) rfl (hb hby at_138) rfl ((if0 _ _).trans (teq (rfl : (0 : Int32) = (0 : Int32))).1) (by decide) (by decide) ?_
    show Steps p.tables e below (T39.setTop (mkF m 164 #[.val (.int p1), .val (.ref b1), .val (.int (1 : Int32)), .val (.ref w_ENERGY), .val (.int (0 : Int32)), .val (.int (0 : Int32))] [])) _
    refine XS.iconst X39.here hx rfl (hb hby at_164) ?_
    show Steps p.tables e below (T39.setTop (mkF m 165 #[.val (.int p1), .val (.ref b1), .val (.int (1 : Int32)), .val (.ref w_ENERGY), .val (.int (0 : Int32)), .val (.int (0 : Int32))] [(.int (1 : Int32))])) _
    exact retN X39 hx (t := .boolean) Bd.returns (by simp) (hb hby at_165) hr
  · exact ⟨rfl, N39⟩
set_option maxRecDepth 65536 in
set_option maxHeartbeats 40000000 in
theorem rm0_2 (l : Launch) (Z : State) (a0 : Array Value) (hw : ∀ d ∈ tables_1, d.before a0 Z = true) (ws : List Jvm.Cond) (p1 : Int32) (w_DAYS : Addr) (w_ENERGY : Addr) (w_ON_PEAK_ENERGY : Addr) (w_OFF_PEAK_ENERGY : Addr) (w_BILLING_DEMAND_DAYS : Addr) (w_METERED_DEMAND_DAYS : Addr) (w_FIXTURE_DAYS : Addr) (w_HIGHEST_HOUR_ENERGY : Addr) (w_GAS_INDEXED_ENERGY : Addr) (w_POOL_PRICED_ENERGY : Addr) (w_ISO_COSTS : Addr) (w_DISTRIBUTION_ACCESS_CHARGES : Addr) (h0 : Heap) (n0 : Nat) (OL0 : Old Z n0 h0) (pr1 : Sta Z Z.heap "com/example/tarcal/tarcal/schedules/Basis" "DAYS" "Lcom/example/tarcal/tarcal/schedules/Basis;" (.ref w_DAYS)) (pr2 : Exa Z Z.heap w_DAYS "com/example/tarcal/tarcal/schedules/Basis") (pr3 : Sta Z Z.heap "com/example/tarcal/tarcal/schedules/Basis" "ENERGY" "Lcom/example/tarcal/tarcal/schedules/Basis;" (.ref w_ENERGY)) (pr4 : Exa Z Z.heap w_ENERGY "com/example/tarcal/tarcal/schedules/Basis") (pr5 : Sta Z Z.heap "com/example/tarcal/tarcal/schedules/Basis" "ON_PEAK_ENERGY" "Lcom/example/tarcal/tarcal/schedules/Basis;" (.ref w_ON_PEAK_ENERGY)) (pr6 : Exa Z Z.heap w_ON_PEAK_ENERGY "com/example/tarcal/tarcal/schedules/Basis") (pr7 : Sta Z Z.heap "com/example/tarcal/tarcal/schedules/Basis" "OFF_PEAK_ENERGY" "Lcom/example/tarcal/tarcal/schedules/Basis;" (.ref w_OFF_PEAK_ENERGY)) (pr8 : Exa Z Z.heap w_OFF_PEAK_ENERGY "com/example/tarcal/tarcal/schedules/Basis") (pr9 : Sta Z Z.heap "com/example/tarcal/tarcal/schedules/Basis" "BILLING_DEMAND_DAYS" "Lcom/example/tarcal/tarcal/schedules/Basis;" (.ref w_BILLING_DEMAND_DAYS)) (pr10 : Exa Z Z.heap w_BILLING_DEMAND_DAYS "com/example/tarcal/tarcal/schedules/Basis") (pr11 : Sta Z Z.heap "com/example/tarcal/tarcal/schedules/Basis" "METERED_DEMAND_DAYS" "Lcom/example/tarcal/tarcal/schedules/Basis;" (.ref w_METERED_DEMAND_DAYS)) (pr12 : Exa Z Z.heap w_METERED_DEMAND_DAYS "com/example/tarcal/tarcal/schedules/Basis") (pr13 : Sta Z Z.heap "com/example/tarcal/tarcal/schedules/Basis" "FIXTURE_DAYS" "Lcom/example/tarcal/tarcal/schedules/Basis;" (.ref w_FIXTURE_DAYS)) (pr14 : Exa Z Z.heap w_FIXTURE_DAYS "com/example/tarcal/tarcal/schedules/Basis") (pr15 : Sta Z Z.heap "com/example/tarcal/tarcal/schedules/Basis" "HIGHEST_HOUR_ENERGY" "Lcom/example/tarcal/tarcal/schedules/Basis;" (.ref w_HIGHEST_HOUR_ENERGY)) (pr16 : Exa Z Z.heap w_HIGHEST_HOUR_ENERGY "com/example/tarcal/tarcal/schedules/Basis") (pr17 : Sta Z Z.heap "com/example/tarcal/tarcal/schedules/Basis" "GAS_INDEXED_ENERGY" "Lcom/example/tarcal/tarcal/schedules/Basis;" (.ref w_GAS_INDEXED_ENERGY)) (pr18 : Exa Z Z.heap w_GAS_INDEXED_ENERGY "com/example/tarcal/tarcal/schedules/Basis") (pr19 : Sta Z Z.heap "com/example/tarcal/tarcal/schedules/Basis" "POOL_PRICED_ENERGY" "Lcom/example/tarcal/tarcal/schedules/Basis;" (.ref w_POOL_PRICED_ENERGY)) (pr20 : Exa Z Z.heap w_POOL_PRICED_ENERGY "com/example/tarcal/tarcal/schedules/Basis") (pr21 : Sta Z Z.heap "com/example/tarcal/tarcal/schedules/Basis" "ISO_COSTS" "Lcom/example/tarcal/tarcal/schedules/Basis;" (.ref w_ISO_COSTS)) (pr22 : Exa Z Z.heap w_ISO_COSTS "com/example/tarcal/tarcal/schedules/Basis") (pr23 : Sta Z Z.heap "com/example/tarcal/tarcal/schedules/Basis" "DISTRIBUTION_ACCESS_CHARGES" "Lcom/example/tarcal/tarcal/schedules/Basis;" (.ref w_DISTRIBUTION_ACCESS_CHARGES)) (pr24 : Exa Z Z.heap w_DISTRIBUTION_ACCESS_CHARGES "com/example/tarcal/tarcal/schedules/Basis") (pr25 : ((p1 &&& (2147483647 : Int32)) % (12 : Int32)) = (2 : Int32)) (pr26 : w_ON_PEAK_ENERGY ≠ w_HIGHEST_HOUR_ENERGY) (pr27 : w_ON_PEAK_ENERGY ≠ w_GAS_INDEXED_ENERGY) (pr28 : w_ON_PEAK_ENERGY ≠ w_POOL_PRICED_ENERGY) :
    MetFree l x (head1 (Jvm.Cond.code x code maxLocals ret :: ws) room_1) (fun a U => a = #[(.int p1)] ∧ Z.Warmed39 U.vm ∧ U.heap = h0) (fun _ _ _ _ _ => True) (fun _ U o U' => ∃ v L, o = .returned v ∧ Q0 n0 v L ∧ FrameEnd U o U' L 16 128) := by
  refine MetFree.of_bodySF (plainFor_of_name pn_1) hisR ?_
  intro p e s m args below meth c s₁ Bd hml0 hP hK
  obtain ⟨rfl, hZ, hh⟩ := hP
  have hx := Bd.exec
  have hby := Bd.bytes
  have hml : c.maxLocals = 6 := hml0
  have hown : s.vm.findClass "com/example/tarcal/tarcal/schedules/BasisPerPeriodPinLaw" = some m.cls := findClass_of_methodNamed Bd.named
  have hnm := (name_of_methodNamed Bd.named Bd.method).1
  have X0 : Stand p l e room_1 s m #[(.int p1)] below meth c s₁ [] 0 0 := Stand.of_body Bd
  have e0 : s₁.heap = h0 := by rw [← hh, Bd.state]; rfl
  have N0 := Fr.nil n0
  have pre0 : ∀ t, Steps p.tables e below (s₁.setTop (mkF m 0 #[.val (.int p1), .unset, .unset, .unset, .unset, .unset] [])) t → Steps p.tables e below (s₁.setTop (entryFrame m #[(.int p1)] maxLocals)) t := fun t k => castTop (ef_0_1 m p1) k
  obtain ⟨T1, h1, k1, X1, e1, E1, A1, O1, st1⟩ := newR X0 hx hZ hown (wd0 hw) (wd1 hw) e0 (g := (mkF m 2 #[.val (.int p1), .unset, .unset, .unset, .unset, .unset] [(.int (12 : Int32))])) rfl (hb hby at_2) rfl (by decide) (cap := 12) (by decide) (by decide) (by decide) (by decide)
  obtain ⟨b1, g1⟩ : ∃ z, z = h0.size := ⟨_, rfl⟩
  rw [← g1] at A1 st1
  have V1 : Arv Z h1 b1 k1 (.object "com/example/tarcal/tarcal/schedules/Basis") (12 : Int32) [.null, .null, .null, .null, .null, .null, .null, .null, .null, .null, .null, .null] .null := (Arv.new A1 (by decide)).pad (pad_rep [] .null 12)
  have g_b1 : n0 ≤ b1 := (Nat.le_trans (Nat.le_trans (Nat.le_of_eq OL0.1.symm) OL0.2.1) (Nat.le_of_eq g1.symm))
  have sz_b1 : h0.size ≤ b1 := (Nat.le_trans (Keep.refl h0 []).1 (Nat.le_of_eq g1.symm))
  have KK1 : Keep h0 h1 [] := (Keep.refl h0 []).ext E1
  have OL1 := OL0.ext E1
  obtain ⟨T2, X2, e2, st2⟩ := getS2 X1 hx hZ hown (host := "") (Or.inl (wd2 hw)) Via.refl e1 (pr1.ext OL1.2) (g := (mkF m 7 #[.val (.int p1), .unset, .unset, .unset, .unset, .unset] [(.int (0 : Int32)), (.ref b1), (.ref b1)])) rfl (hb hby at_7)
  obtain ⟨cl3, Ar3, q3, S3, M3, Hs3, G3⟩ := V1
  have hin3 : ¬ ((0 : Int32) < 0 ∨ cl3.slots.size ≤ ((0 : Int32)).toNatClampNeg) := inb_of S3 ⟨by decide, by decide⟩
  obtain ⟨T4, h4, X4, e4, W4, st4⟩ := stR X2 hx hZ e2 Ar3 (j := (0 : Int32)) hin3 rfl (Sto.ofV Ar3 q3 O1 (Ins.self (pr2.ext OL1.2))) (g := (mkF m 10 #[.val (.int p1), .unset, .unset, .unset, .unset, .unset] [(.ref w_DAYS), (.int (0 : Int32)), (.ref b1), (.ref b1)])) rfl rfl (hb hby at_10)
  have V4 : Arv Z h4 b1 k1 (.object "com/example/tarcal/tarcal/schedules/Basis") (12 : Int32) [(.ref w_DAYS), .null, .null, .null, .null, .null, .null, .null, .null, .null, .null, .null] .null := Arv.set Ar3 q3 S3 M3 Hs3 G3 rfl W4 0 rfl (Nat.le_of_ble_eq_true rfl)
  have KK4 : Keep h0 h4 [] := KK1.wr W4 (Or.inr sz_b1)
  have OL4 := OL1.wr W4 g_b1
  have N4 := Fr.snoc X4 N0 g_b1
  obtain ⟨T5, X5, e5, st5⟩ := getS2 X4 hx hZ hown (host := "") (Or.inl (wd6 hw)) Via.refl e4 (pr3.ext OL4.2) (g := (mkF m 13 #[.val (.int p1), .unset, .unset, .unset, .unset, .unset] [(.int (1 : Int32)), (.ref b1), (.ref b1)])) rfl (hb hby at_13)
  obtain ⟨cl6, Ar6, q6, S6, M6, Hs6, G6⟩ := V4
  have hin6 : ¬ ((1 : Int32) < 0 ∨ cl6.slots.size ≤ ((1 : Int32)).toNatClampNeg) := inb_of S6 ⟨by decide, by decide⟩
  obtain ⟨T7, h7, X7, e7, W7, st7⟩ := stR X5 hx hZ e5 Ar6 (j := (1 : Int32)) hin6 rfl (Sto.ofV Ar6 q6 O1 (Ins.self (pr4.ext OL4.2))) (g := (mkF m 16 #[.val (.int p1), .unset, .unset, .unset, .unset, .unset] [(.ref w_ENERGY), (.int (1 : Int32)), (.ref b1), (.ref b1)])) rfl rfl (hb hby at_16)
  have V7 : Arv Z h7 b1 k1 (.object "com/example/tarcal/tarcal/schedules/Basis") (12 : Int32) [(.ref w_DAYS), (.ref w_ENERGY), .null, .null, .null, .null, .null, .null, .null, .null, .null, .null] .null := Arv.set Ar6 q6 S6 M6 Hs6 G6 rfl W7 1 rfl (Nat.le_of_ble_eq_true rfl)
  have KK7 : Keep h0 h7 [] := KK4.wr W7 (Or.inr sz_b1)
  have OL7 := OL4.wr W7 g_b1
  have N7 := Fr.snoc X7 N4 g_b1
  obtain ⟨T8, X8, e8, st8⟩ := getS2 X7 hx hZ hown (host := "") (Or.inl (wd8 hw)) Via.refl e7 (pr5.ext OL7.2) (g := (mkF m 19 #[.val (.int p1), .unset, .unset, .unset, .unset, .unset] [(.int (2 : Int32)), (.ref b1), (.ref b1)])) rfl (hb hby at_19)
  obtain ⟨cl9, Ar9, q9, S9, M9, Hs9, G9⟩ := V7
  have hin9 : ¬ ((2 : Int32) < 0 ∨ cl9.slots.size ≤ ((2 : Int32)).toNatClampNeg) := inb_of S9 ⟨by decide, by decide⟩
  obtain ⟨T10, h10, X10, e10, W10, st10⟩ := stR X8 hx hZ e8 Ar9 (j := (2 : Int32)) hin9 rfl (Sto.ofV Ar9 q9 O1 (Ins.self (pr6.ext OL7.2))) (g := (mkF m 22 #[.val (.int p1), .unset, .unset, .unset, .unset, .unset] [(.ref w_ON_PEAK_ENERGY), (.int (2 : Int32)), (.ref b1), (.ref b1)])) rfl rfl (hb hby at_22)
  have V10 : Arv Z h10 b1 k1 (.object "com/example/tarcal/tarcal/schedules/Basis") (12 : Int32) [(.ref w_DAYS), (.ref w_ENERGY), (.ref w_ON_PEAK_ENERGY), .null, .null, .null, .null, .null, .null, .null, .null, .null] .null := Arv.set Ar9 q9 S9 M9 Hs9 G9 rfl W10 2 rfl (Nat.le_of_ble_eq_true rfl)
  have KK10 : Keep h0 h10 [] := KK7.wr W10 (Or.inr sz_b1)
  have OL10 := OL7.wr W10 g_b1
  have N10 := Fr.snoc X10 N7 g_b1
  obtain ⟨T11, X11, e11, st11⟩ := getS2 X10 hx hZ hown (host := "") (Or.inl (wd10 hw)) Via.refl e10 (pr7.ext OL10.2) (g := (mkF m 25 #[.val (.int p1), .unset, .unset, .unset, .unset, .unset] [(.int (3 : Int32)), (.ref b1), (.ref b1)])) rfl (hb hby at_25)
  obtain ⟨cl12, Ar12, q12, S12, M12, Hs12, G12⟩ := V10
  have hin12 : ¬ ((3 : Int32) < 0 ∨ cl12.slots.size ≤ ((3 : Int32)).toNatClampNeg) := inb_of S12 ⟨by decide, by decide⟩
  obtain ⟨T13, h13, X13, e13, W13, st13⟩ := stR X11 hx hZ e11 Ar12 (j := (3 : Int32)) hin12 rfl (Sto.ofV Ar12 q12 O1 (Ins.self (pr8.ext OL10.2))) (g := (mkF m 28 #[.val (.int p1), .unset, .unset, .unset, .unset, .unset] [(.ref w_OFF_PEAK_ENERGY), (.int (3 : Int32)), (.ref b1), (.ref b1)])) rfl rfl (hb hby at_28)
  have V13 : Arv Z h13 b1 k1 (.object "com/example/tarcal/tarcal/schedules/Basis") (12 : Int32) [(.ref w_DAYS), (.ref w_ENERGY), (.ref w_ON_PEAK_ENERGY), (.ref w_OFF_PEAK_ENERGY), .null, .null, .null, .null, .null, .null, .null, .null] .null := Arv.set Ar12 q12 S12 M12 Hs12 G12 rfl W13 3 rfl (Nat.le_of_ble_eq_true rfl)
  have KK13 : Keep h0 h13 [] := KK10.wr W13 (Or.inr sz_b1)
  have OL13 := OL10.wr W13 g_b1
  have N13 := Fr.snoc X13 N10 g_b1
  obtain ⟨T14, X14, e14, st14⟩ := getS2 X13 hx hZ hown (host := "") (Or.inl (wd12 hw)) Via.refl e13 (pr9.ext OL13.2) (g := (mkF m 31 #[.val (.int p1), .unset, .unset, .unset, .unset, .unset] [(.int (4 : Int32)), (.ref b1), (.ref b1)])) rfl (hb hby at_31)
  obtain ⟨cl15, Ar15, q15, S15, M15, Hs15, G15⟩ := V13
  have hin15 : ¬ ((4 : Int32) < 0 ∨ cl15.slots.size ≤ ((4 : Int32)).toNatClampNeg) := inb_of S15 ⟨by decide, by decide⟩
  obtain ⟨T16, h16, X16, e16, W16, st16⟩ := stR X14 hx hZ e14 Ar15 (j := (4 : Int32)) hin15 rfl (Sto.ofV Ar15 q15 O1 (Ins.self (pr10.ext OL13.2))) (g := (mkF m 34 #[.val (.int p1), .unset, .unset, .unset, .unset, .unset] [(.ref w_BILLING_DEMAND_DAYS), (.int (4 : Int32)), (.ref b1), (.ref b1)])) rfl rfl (hb hby at_34)
  have V16 : Arv Z h16 b1 k1 (.object "com/example/tarcal/tarcal/schedules/Basis") (12 : Int32) [(.ref w_DAYS), (.ref w_ENERGY), (.ref w_ON_PEAK_ENERGY), (.ref w_OFF_PEAK_ENERGY), (.ref w_BILLING_DEMAND_DAYS), .null, .null, .null, .null, .null, .null, .null] .null := Arv.set Ar15 q15 S15 M15 Hs15 G15 rfl W16 4 rfl (Nat.le_of_ble_eq_true rfl)
  have KK16 : Keep h0 h16 [] := KK13.wr W16 (Or.inr sz_b1)
  have OL16 := OL13.wr W16 g_b1
  have N16 := Fr.snoc X16 N13 g_b1
  obtain ⟨T17, X17, e17, st17⟩ := getS2 X16 hx hZ hown (host := "") (Or.inl (wd14 hw)) Via.refl e16 (pr11.ext OL16.2) (g := (mkF m 37 #[.val (.int p1), .unset, .unset, .unset, .unset, .unset] [(.int (5 : Int32)), (.ref b1), (.ref b1)])) rfl (hb hby at_37)
  obtain ⟨cl18, Ar18, q18, S18, M18, Hs18, G18⟩ := V16
  have hin18 : ¬ ((5 : Int32) < 0 ∨ cl18.slots.size ≤ ((5 : Int32)).toNatClampNeg) := inb_of S18 ⟨by decide, by decide⟩
  obtain ⟨T19, h19, X19, e19, W19, st19⟩ := stR X17 hx hZ e17 Ar18 (j := (5 : Int32)) hin18 rfl (Sto.ofV Ar18 q18 O1 (Ins.self (pr12.ext OL16.2))) (g := (mkF m 40 #[.val (.int p1), .unset, .unset, .unset, .unset, .unset] [(.ref w_METERED_DEMAND_DAYS), (.int (5 : Int32)), (.ref b1), (.ref b1)])) rfl rfl (hb hby at_40)
  have V19 : Arv Z h19 b1 k1 (.object "com/example/tarcal/tarcal/schedules/Basis") (12 : Int32) [(.ref w_DAYS), (.ref w_ENERGY), (.ref w_ON_PEAK_ENERGY), (.ref w_OFF_PEAK_ENERGY), (.ref w_BILLING_DEMAND_DAYS), (.ref w_METERED_DEMAND_DAYS), .null, .null, .null, .null, .null, .null] .null := Arv.set Ar18 q18 S18 M18 Hs18 G18 rfl W19 5 rfl (Nat.le_of_ble_eq_true rfl)
  have KK19 : Keep h0 h19 [] := KK16.wr W19 (Or.inr sz_b1)
  have OL19 := OL16.wr W19 g_b1
  have N19 := Fr.snoc X19 N16 g_b1
  obtain ⟨T20, X20, e20, st20⟩ := getS2 X19 hx hZ hown (host := "") (Or.inl (wd16 hw)) Via.refl e19 (pr13.ext OL19.2) (g := (mkF m 44 #[.val (.int p1), .unset, .unset, .unset, .unset, .unset] [(.int (6 : Int32)), (.ref b1), (.ref b1)])) rfl (hb hby at_44)
  obtain ⟨cl21, Ar21, q21, S21, M21, Hs21, G21⟩ := V19
  have hin21 : ¬ ((6 : Int32) < 0 ∨ cl21.slots.size ≤ ((6 : Int32)).toNatClampNeg) := inb_of S21 ⟨by decide, by decide⟩
  obtain ⟨T22, h22, X22, e22, W22, st22⟩ := stR X20 hx hZ e20 Ar21 (j := (6 : Int32)) hin21 rfl (Sto.ofV Ar21 q21 O1 (Ins.self (pr14.ext OL19.2))) (g := (mkF m 47 #[.val (.int p1), .unset, .unset, .unset, .unset, .unset] [(.ref w_FIXTURE_DAYS), (.int (6 : Int32)), (.ref b1), (.ref b1)])) rfl rfl (hb hby at_47)
  have V22 : Arv Z h22 b1 k1 (.object "com/example/tarcal/tarcal/schedules/Basis") (12 : Int32) [(.ref w_DAYS), (.ref w_ENERGY), (.ref w_ON_PEAK_ENERGY), (.ref w_OFF_PEAK_ENERGY), (.ref w_BILLING_DEMAND_DAYS), (.ref w_METERED_DEMAND_DAYS), (.ref w_FIXTURE_DAYS), .null, .null, .null, .null, .null] .null := Arv.set Ar21 q21 S21 M21 Hs21 G21 rfl W22 6 rfl (Nat.le_of_ble_eq_true rfl)
  have KK22 : Keep h0 h22 [] := KK19.wr W22 (Or.inr sz_b1)
  have OL22 := OL19.wr W22 g_b1
  have N22 := Fr.snoc X22 N19 g_b1
  obtain ⟨T23, X23, e23, st23⟩ := getS2 X22 hx hZ hown (host := "") (Or.inl (wd18 hw)) Via.refl e22 (pr15.ext OL22.2) (g := (mkF m 51 #[.val (.int p1), .unset, .unset, .unset, .unset, .unset] [(.int (7 : Int32)), (.ref b1), (.ref b1)])) rfl (hb hby at_51)
  obtain ⟨cl24, Ar24, q24, S24, M24, Hs24, G24⟩ := V22
  have hin24 : ¬ ((7 : Int32) < 0 ∨ cl24.slots.size ≤ ((7 : Int32)).toNatClampNeg) := inb_of S24 ⟨by decide, by decide⟩
  obtain ⟨T25, h25, X25, e25, W25, st25⟩ := stR X23 hx hZ e23 Ar24 (j := (7 : Int32)) hin24 rfl (Sto.ofV Ar24 q24 O1 (Ins.self (pr16.ext OL22.2))) (g := (mkF m 54 #[.val (.int p1), .unset, .unset, .unset, .unset, .unset] [(.ref w_HIGHEST_HOUR_ENERGY), (.int (7 : Int32)), (.ref b1), (.ref b1)])) rfl rfl (hb hby at_54)
  have V25 : Arv Z h25 b1 k1 (.object "com/example/tarcal/tarcal/schedules/Basis") (12 : Int32) [(.ref w_DAYS), (.ref w_ENERGY), (.ref w_ON_PEAK_ENERGY), (.ref w_OFF_PEAK_ENERGY), (.ref w_BILLING_DEMAND_DAYS), (.ref w_METERED_DEMAND_DAYS), (.ref w_FIXTURE_DAYS), (.ref w_HIGHEST_HOUR_ENERGY), .null, .null, .null, .null] .null := Arv.set Ar24 q24 S24 M24 Hs24 G24 rfl W25 7 rfl (Nat.le_of_ble_eq_true rfl)
  have KK25 : Keep h0 h25 [] := KK22.wr W25 (Or.inr sz_b1)
  have OL25 := OL22.wr W25 g_b1
  have N25 := Fr.snoc X25 N22 g_b1
  obtain ⟨T26, X26, e26, st26⟩ := getS2 X25 hx hZ hown (host := "") (Or.inl (wd20 hw)) Via.refl e25 (pr17.ext OL25.2) (g := (mkF m 58 #[.val (.int p1), .unset, .unset, .unset, .unset, .unset] [(.int (8 : Int32)), (.ref b1), (.ref b1)])) rfl (hb hby at_58)
  obtain ⟨cl27, Ar27, q27, S27, M27, Hs27, G27⟩ := V25
  have hin27 : ¬ ((8 : Int32) < 0 ∨ cl27.slots.size ≤ ((8 : Int32)).toNatClampNeg) := inb_of S27 ⟨by decide, by decide⟩
  obtain ⟨T28, h28, X28, e28, W28, st28⟩ := stR X26 hx hZ e26 Ar27 (j := (8 : Int32)) hin27 rfl (Sto.ofV Ar27 q27 O1 (Ins.self (pr18.ext OL25.2))) (g := (mkF m 61 #[.val (.int p1), .unset, .unset, .unset, .unset, .unset] [(.ref w_GAS_INDEXED_ENERGY), (.int (8 : Int32)), (.ref b1), (.ref b1)])) rfl rfl (hb hby at_61)
  have V28 : Arv Z h28 b1 k1 (.object "com/example/tarcal/tarcal/schedules/Basis") (12 : Int32) [(.ref w_DAYS), (.ref w_ENERGY), (.ref w_ON_PEAK_ENERGY), (.ref w_OFF_PEAK_ENERGY), (.ref w_BILLING_DEMAND_DAYS), (.ref w_METERED_DEMAND_DAYS), (.ref w_FIXTURE_DAYS), (.ref w_HIGHEST_HOUR_ENERGY), (.ref w_GAS_INDEXED_ENERGY), .null, .null, .null] .null := Arv.set Ar27 q27 S27 M27 Hs27 G27 rfl W28 8 rfl (Nat.le_of_ble_eq_true rfl)
  have KK28 : Keep h0 h28 [] := KK25.wr W28 (Or.inr sz_b1)
  have OL28 := OL25.wr W28 g_b1
  have N28 := Fr.snoc X28 N25 g_b1
  obtain ⟨T29, X29, e29, st29⟩ := getS2 X28 hx hZ hown (host := "") (Or.inl (wd22 hw)) Via.refl e28 (pr19.ext OL28.2) (g := (mkF m 65 #[.val (.int p1), .unset, .unset, .unset, .unset, .unset] [(.int (9 : Int32)), (.ref b1), (.ref b1)])) rfl (hb hby at_65)
  obtain ⟨cl30, Ar30, q30, S30, M30, Hs30, G30⟩ := V28
  have hin30 : ¬ ((9 : Int32) < 0 ∨ cl30.slots.size ≤ ((9 : Int32)).toNatClampNeg) := inb_of S30 ⟨by decide, by decide⟩
  obtain ⟨T31, h31, X31, e31, W31, st31⟩ := stR X29 hx hZ e29 Ar30 (j := (9 : Int32)) hin30 rfl (Sto.ofV Ar30 q30 O1 (Ins.self (pr20.ext OL28.2))) (g := (mkF m 68 #[.val (.int p1), .unset, .unset, .unset, .unset, .unset] [(.ref w_POOL_PRICED_ENERGY), (.int (9 : Int32)), (.ref b1), (.ref b1)])) rfl rfl (hb hby at_68)
  have V31 : Arv Z h31 b1 k1 (.object "com/example/tarcal/tarcal/schedules/Basis") (12 : Int32) [(.ref w_DAYS), (.ref w_ENERGY), (.ref w_ON_PEAK_ENERGY), (.ref w_OFF_PEAK_ENERGY), (.ref w_BILLING_DEMAND_DAYS), (.ref w_METERED_DEMAND_DAYS), (.ref w_FIXTURE_DAYS), (.ref w_HIGHEST_HOUR_ENERGY), (.ref w_GAS_INDEXED_ENERGY), (.ref w_POOL_PRICED_ENERGY), .null, .null] .null := Arv.set Ar30 q30 S30 M30 Hs30 G30 rfl W31 9 rfl (Nat.le_of_ble_eq_true rfl)
  have KK31 : Keep h0 h31 [] := KK28.wr W31 (Or.inr sz_b1)
  have OL31 := OL28.wr W31 g_b1
  have N31 := Fr.snoc X31 N28 g_b1
  obtain ⟨T32, X32, e32, st32⟩ := getS2 X31 hx hZ hown (host := "") (Or.inl (wd24 hw)) Via.refl e31 (pr21.ext OL31.2) (g := (mkF m 72 #[.val (.int p1), .unset, .unset, .unset, .unset, .unset] [(.int (10 : Int32)), (.ref b1), (.ref b1)])) rfl (hb hby at_72)
  obtain ⟨cl33, Ar33, q33, S33, M33, Hs33, G33⟩ := V31
  have hin33 : ¬ ((10 : Int32) < 0 ∨ cl33.slots.size ≤ ((10 : Int32)).toNatClampNeg) := inb_of S33 ⟨by decide, by decide⟩
  obtain ⟨T34, h34, X34, e34, W34, st34⟩ := stR X32 hx hZ e32 Ar33 (j := (10 : Int32)) hin33 rfl (Sto.ofV Ar33 q33 O1 (Ins.self (pr22.ext OL31.2))) (g := (mkF m 75 #[.val (.int p1), .unset, .unset, .unset, .unset, .unset] [(.ref w_ISO_COSTS), (.int (10 : Int32)), (.ref b1), (.ref b1)])) rfl rfl (hb hby at_75)
  have V34 : Arv Z h34 b1 k1 (.object "com/example/tarcal/tarcal/schedules/Basis") (12 : Int32) [(.ref w_DAYS), (.ref w_ENERGY), (.ref w_ON_PEAK_ENERGY), (.ref w_OFF_PEAK_ENERGY), (.ref w_BILLING_DEMAND_DAYS), (.ref w_METERED_DEMAND_DAYS), (.ref w_FIXTURE_DAYS), (.ref w_HIGHEST_HOUR_ENERGY), (.ref w_GAS_INDEXED_ENERGY), (.ref w_POOL_PRICED_ENERGY), (.ref w_ISO_COSTS), .null] .null := Arv.set Ar33 q33 S33 M33 Hs33 G33 rfl W34 10 rfl (Nat.le_of_ble_eq_true rfl)
  have KK34 : Keep h0 h34 [] := KK31.wr W34 (Or.inr sz_b1)
  have OL34 := OL31.wr W34 g_b1
  have N34 := Fr.snoc X34 N31 g_b1
  obtain ⟨T35, X35, e35, st35⟩ := getS2 X34 hx hZ hown (host := "") (Or.inl (wd26 hw)) Via.refl e34 (pr23.ext OL34.2) (g := (mkF m 79 #[.val (.int p1), .unset, .unset, .unset, .unset, .unset] [(.int (11 : Int32)), (.ref b1), (.ref b1)])) rfl (hb hby at_79)
  obtain ⟨cl36, Ar36, q36, S36, M36, Hs36, G36⟩ := V34
  have hin36 : ¬ ((11 : Int32) < 0 ∨ cl36.slots.size ≤ ((11 : Int32)).toNatClampNeg) := inb_of S36 ⟨by decide, by decide⟩
  obtain ⟨T37, h37, X37, e37, W37, st37⟩ := stR X35 hx hZ e35 Ar36 (j := (11 : Int32)) hin36 rfl (Sto.ofV Ar36 q36 O1 (Ins.self (pr24.ext OL34.2))) (g := (mkF m 82 #[.val (.int p1), .unset, .unset, .unset, .unset, .unset] [(.ref w_DISTRIBUTION_ACCESS_CHARGES), (.int (11 : Int32)), (.ref b1), (.ref b1)])) rfl rfl (hb hby at_82)
  have V37 : Arv Z h37 b1 k1 (.object "com/example/tarcal/tarcal/schedules/Basis") (12 : Int32) [(.ref w_DAYS), (.ref w_ENERGY), (.ref w_ON_PEAK_ENERGY), (.ref w_OFF_PEAK_ENERGY), (.ref w_BILLING_DEMAND_DAYS), (.ref w_METERED_DEMAND_DAYS), (.ref w_FIXTURE_DAYS), (.ref w_HIGHEST_HOUR_ENERGY), (.ref w_GAS_INDEXED_ENERGY), (.ref w_POOL_PRICED_ENERGY), (.ref w_ISO_COSTS), (.ref w_DISTRIBUTION_ACCESS_CHARGES)] .null := Arv.set Ar36 q36 S36 M36 Hs36 G36 rfl W37 11 rfl (Nat.le_of_ble_eq_true rfl)
  have KK37 : Keep h0 h37 [] := KK34.wr W37 (Or.inr sz_b1)
  have OL37 := OL34.wr W37 g_b1
  have N37 := Fr.snoc X37 N34 g_b1
  obtain ⟨cl38, Ar38, -, S38, -, Hs38, -⟩ := V37
  have hin38 : ¬ ((2 : Int32) < 0 ∨ cl38.slots.size ≤ ((2 : Int32)).toNatClampNeg) := inb_of S38 ⟨by decide, by decide⟩
  have hat38 : cl38.slots[((2 : Int32)).toNatClampNeg]? = some (.ref w_ON_PEAK_ENERGY) := Hs38.at hin38 rfl
  obtain ⟨cq39, kq39, q39a, q39b, q39c⟩ := isOf hZ e37 (pr6.ext OL37.2)
  obtain ⟨_, _, ⟨T39, L39, k39, n39⟩, -, X39, ⟨Lc39, hQ39, l39, y39, z39⟩, st39⟩ := X37.virtualBack hx (y := (⟨"com/example/tarcal/tarcal/schedules/Basis", "perPeriod", "()Z"⟩ : MethodName)) (z := (⟨"com/example/tarcal/tarcal/schedules/Basis", "perPeriod", "()Z"⟩ : MethodName)) hown (mvT hZ (wd29 hw)) (mvT hZ (wd30 hw)) (notFace_of_selects (args := #[]) (mvT hZ (wd32 hw))) (mvT hZ (wd32 hw)) (mvT hZ (wd31 hw)) (by decide) (backOf (W := 0) (rm1_0 l Z a0 hw [] w_ON_PEAK_ENERGY w_HIGHEST_HOUR_ENERGY w_GAS_INDEXED_ENERGY w_POOL_PRICED_ENERGY h37 n0 OL37 pr15 pr26 pr17 pr27 pr19 pr28) hZ (wd33 hw) (wd3 hw) (by decide) (by decide)) q39a q39c (g := (mkF m 122 #[.val (.int p1), .val (.ref b1), .val (.int (2 : Int32)), .val (.ref w_ON_PEAK_ENERGY), .val (.int (0 : Int32)), .unset] [(.ref w_ON_PEAK_ENERGY)])) rfl (by rw [hml]; rfl) (Steps.refl _) (argsL := []) (rest := []) (lenOf pd_0 rfl) rfl (by show 2 * 0 + _ ≤ _; exact Nat.le_of_eq rfl) (hb hby at_122) (fun _ _ => ⟨rfl, e37, (by decide : 1 + 0 ≤ _), (by decide : 12 + 0 ≤ _)⟩)
  dsimp only [Pt.U, Pt.locs, Pt.cells, Pt.slots] at X39 l39 y39 z39 st39 hQ39
  subst l39 y39 z39
  obtain ⟨rfl, Nq39, ec39⟩ := hQ39
  have N39 := Fr.app N37 Nq39
  obtain ⟨fs, hr, hrun, hended, hW, hsame⟩ := X39.leave (v := some (.int (1 : Int32))) (fun h => by rw [Bd.returns] at h; cases h)
  refine ⟨_, _, pre0 _ ?_, hrun, hended, _, _, rfl, ?_, ⟨_, rfl⟩, hW, hsame.mono (by decide) (by decide)⟩
  · show Steps p.tables e below (s₁.setTop (mkF m 0 #[.val (.int p1), .unset, .unset, .unset, .unset, .unset] [])) _
    refine XS.bipush X0.here hx rfl (hb hby at_0) ?_
    show Steps p.tables e below (s₁.setTop (mkF m 2 #[.val (.int p1), .unset, .unset, .unset, .unset, .unset] [(.int (12 : Int32))])) _
    refine st1 _ ?_
    show Steps p.tables e below (T1.setTop (mkF m 5 #[.val (.int p1), .unset, .unset, .unset, .unset, .unset] [(.ref b1)])) _
    refine XS.dup X1.here hx rfl (hb hby at_5) rfl rfl ?_
    show Steps p.tables e below (T1.setTop (mkF m 6 #[.val (.int p1), .unset, .unset, .unset, .unset, .unset] [(.ref b1), (.ref b1)])) _
    refine XS.iconst X1.here hx rfl (hb hby at_6) ?_
    show Steps p.tables e below (T1.setTop (mkF m 7 #[.val (.int p1), .unset, .unset, .unset, .unset, .unset] [(.int (0 : Int32)), (.ref b1), (.ref b1)])) _
    refine st2 _ ?_
    show Steps p.tables e below (T2.setTop (mkF m 10 #[.val (.int p1), .unset, .unset, .unset, .unset, .unset] [(.ref w_DAYS), (.int (0 : Int32)), (.ref b1), (.ref b1)])) _
    refine st4 _ ?_
    show Steps p.tables e below (T4.setTop (mkF m 11 #[.val (.int p1), .unset, .unset, .unset, .unset, .unset] [(.ref b1)])) _
    refine XS.dup X4.here hx rfl (hb hby at_11) rfl rfl ?_
    show Steps p.tables e below (T4.setTop (mkF m 12 #[.val (.int p1), .unset, .unset, .unset, .unset, .unset] [(.ref b1), (.ref b1)])) _
    refine XS.iconst X4.here hx rfl (hb hby at_12) ?_
    show Steps p.tables e below (T4.setTop (mkF m 13 #[.val (.int p1), .unset, .unset, .unset, .unset, .unset] [(.int (1 : Int32)), (.ref b1), (.ref b1)])) _
    refine st5 _ ?_
    show Steps p.tables e below (T5.setTop (mkF m 16 #[.val (.int p1), .unset, .unset, .unset, .unset, .unset] [(.ref w_ENERGY), (.int (1 : Int32)), (.ref b1), (.ref b1)])) _
    refine st7 _ ?_
    show Steps p.tables e below (T7.setTop (mkF m 17 #[.val (.int p1), .unset, .unset, .unset, .unset, .unset] [(.ref b1)])) _
    refine XS.dup X7.here hx rfl (hb hby at_17) rfl rfl ?_
    show Steps p.tables e below (T7.setTop (mkF m 18 #[.val (.int p1), .unset, .unset, .unset, .unset, .unset] [(.ref b1), (.ref b1)])) _
    refine XS.iconst X7.here hx rfl (hb hby at_18) ?_
    show Steps p.tables e below (T7.setTop (mkF m 19 #[.val (.int p1), .unset, .unset, .unset, .unset, .unset] [(.int (2 : Int32)), (.ref b1), (.ref b1)])) _
    refine st8 _ ?_
    show Steps p.tables e below (T8.setTop (mkF m 22 #[.val (.int p1), .unset, .unset, .unset, .unset, .unset] [(.ref w_ON_PEAK_ENERGY), (.int (2 : Int32)), (.ref b1), (.ref b1)])) _
    refine st10 _ ?_
    show Steps p.tables e below (T10.setTop (mkF m 23 #[.val (.int p1), .unset, .unset, .unset, .unset, .unset] [(.ref b1)])) _
    refine XS.dup X10.here hx rfl (hb hby at_23) rfl rfl ?_
    show Steps p.tables e below (T10.setTop (mkF m 24 #[.val (.int p1), .unset, .unset, .unset, .unset, .unset] [(.ref b1), (.ref b1)])) _
    refine XS.iconst X10.here hx rfl (hb hby at_24) ?_
    show Steps p.tables e below (T10.setTop (mkF m 25 #[.val (.int p1), .unset, .unset, .unset, .unset, .unset] [(.int (3 : Int32)), (.ref b1), (.ref b1)])) _
    refine st11 _ ?_
    show Steps p.tables e below (T11.setTop (mkF m 28 #[.val (.int p1), .unset, .unset, .unset, .unset, .unset] [(.ref w_OFF_PEAK_ENERGY), (.int (3 : Int32)), (.ref b1), (.ref b1)])) _
    refine st13 _ ?_
    show Steps p.tables e below (T13.setTop (mkF m 29 #[.val (.int p1), .unset, .unset, .unset, .unset, .unset] [(.ref b1)])) _
    refine XS.dup X13.here hx rfl (hb hby at_29) rfl rfl ?_
    show Steps p.tables e below (T13.setTop (mkF m 30 #[.val (.int p1), .unset, .unset, .unset, .unset, .unset] [(.ref b1), (.ref b1)])) _
    refine XS.iconst X13.here hx rfl (hb hby at_30) ?_
    show Steps p.tables e below (T13.setTop (mkF m 31 #[.val (.int p1), .unset, .unset, .unset, .unset, .unset] [(.int (4 : Int32)), (.ref b1), (.ref b1)])) _
    refine st14 _ ?_
    show Steps p.tables e below (T14.setTop (mkF m 34 #[.val (.int p1), .unset, .unset, .unset, .unset, .unset] [(.ref w_BILLING_DEMAND_DAYS), (.int (4 : Int32)), (.ref b1), (.ref b1)])) _
    refine st16 _ ?_
    show Steps p.tables e below (T16.setTop (mkF m 35 #[.val (.int p1), .unset, .unset, .unset, .unset, .unset] [(.ref b1)])) _
    refine XS.dup X16.here hx rfl (hb hby at_35) rfl rfl ?_
    show Steps p.tables e below (T16.setTop (mkF m 36 #[.val (.int p1), .unset, .unset, .unset, .unset, .unset] [(.ref b1), (.ref b1)])) _
    refine XS.iconst X16.here hx rfl (hb hby at_36) ?_
    show Steps p.tables e below (T16.setTop (mkF m 37 #[.val (.int p1), .unset, .unset, .unset, .unset, .unset] [(.int (5 : Int32)), (.ref b1), (.ref b1)])) _
    refine st17 _ ?_
    show Steps p.tables e below (T17.setTop (mkF m 40 #[.val (.int p1), .unset, .unset, .unset, .unset, .unset] [(.ref w_METERED_DEMAND_DAYS), (.int (5 : Int32)), (.ref b1), (.ref b1)])) _
    refine st19 _ ?_
    show Steps p.tables e below (T19.setTop (mkF m 41 #[.val (.int p1), .unset, .unset, .unset, .unset, .unset] [(.ref b1)])) _
    refine XS.dup X19.here hx rfl (hb hby at_41) rfl rfl ?_
    show Steps p.tables e below (T19.setTop (mkF m 42 #[.val (.int p1), .unset, .unset, .unset, .unset, .unset] [(.ref b1), (.ref b1)])) _
    refine XS.bipush X19.here hx rfl (hb hby at_42) ?_
    show Steps p.tables e below (T19.setTop (mkF m 44 #[.val (.int p1), .unset, .unset, .unset, .unset, .unset] [(.int (6 : Int32)), (.ref b1), (.ref b1)])) _
    refine st20 _ ?_
    show Steps p.tables e below (T20.setTop (mkF m 47 #[.val (.int p1), .unset, .unset, .unset, .unset, .unset] [(.ref w_FIXTURE_DAYS), (.int (6 : Int32)), (.ref b1), (.ref b1)])) _
    refine st22 _ ?_
    show Steps p.tables e below (T22.setTop (mkF m 48 #[.val (.int p1), .unset, .unset, .unset, .unset, .unset] [(.ref b1)])) _
    refine XS.dup X22.here hx rfl (hb hby at_48) rfl rfl ?_
    show Steps p.tables e below (T22.setTop (mkF m 49 #[.val (.int p1), .unset, .unset, .unset, .unset, .unset] [(.ref b1), (.ref b1)])) _
    refine XS.bipush X22.here hx rfl (hb hby at_49) ?_
    show Steps p.tables e below (T22.setTop (mkF m 51 #[.val (.int p1), .unset, .unset, .unset, .unset, .unset] [(.int (7 : Int32)), (.ref b1), (.ref b1)])) _
    refine st23 _ ?_
    show Steps p.tables e below (T23.setTop (mkF m 54 #[.val (.int p1), .unset, .unset, .unset, .unset, .unset] [(.ref w_HIGHEST_HOUR_ENERGY), (.int (7 : Int32)), (.ref b1), (.ref b1)])) _
    refine st25 _ ?_
    show Steps p.tables e below (T25.setTop (mkF m 55 #[.val (.int p1), .unset, .unset, .unset, .unset, .unset] [(.ref b1)])) _
    refine XS.dup X25.here hx rfl (hb hby at_55) rfl rfl ?_
    show Steps p.tables e below (T25.setTop (mkF m 56 #[.val (.int p1), .unset, .unset, .unset, .unset, .unset] [(.ref b1), (.ref b1)])) _
    refine XS.bipush X25.here hx rfl (hb hby at_56) ?_
    show Steps p.tables e below (T25.setTop (mkF m 58 #[.val (.int p1), .unset, .unset, .unset, .unset, .unset] [(.int (8 : Int32)), (.ref b1), (.ref b1)])) _
    refine st26 _ ?_
    show Steps p.tables e below (T26.setTop (mkF m 61 #[.val (.int p1), .unset, .unset, .unset, .unset, .unset] [(.ref w_GAS_INDEXED_ENERGY), (.int (8 : Int32)), (.ref b1), (.ref b1)])) _
    refine st28 _ ?_
    show Steps p.tables e below (T28.setTop (mkF m 62 #[.val (.int p1), .unset, .unset, .unset, .unset, .unset] [(.ref b1)])) _
    refine XS.dup X28.here hx rfl (hb hby at_62) rfl rfl ?_
    show Steps p.tables e below (T28.setTop (mkF m 63 #[.val (.int p1), .unset, .unset, .unset, .unset, .unset] [(.ref b1), (.ref b1)])) _
    refine XS.bipush X28.here hx rfl (hb hby at_63) ?_
    show Steps p.tables e below (T28.setTop (mkF m 65 #[.val (.int p1), .unset, .unset, .unset, .unset, .unset] [(.int (9 : Int32)), (.ref b1), (.ref b1)])) _
    refine st29 _ ?_
    show Steps p.tables e below (T29.setTop (mkF m 68 #[.val (.int p1), .unset, .unset, .unset, .unset, .unset] [(.ref w_POOL_PRICED_ENERGY), (.int (9 : Int32)), (.ref b1), (.ref b1)])) _
    refine st31 _ ?_
    show Steps p.tables e below (T31.setTop (mkF m 69 #[.val (.int p1), .unset, .unset, .unset, .unset, .unset] [(.ref b1)])) _
    refine XS.dup X31.here hx rfl (hb hby at_69) rfl rfl ?_
    show Steps p.tables e below (T31.setTop (mkF m 70 #[.val (.int p1), .unset, .unset, .unset, .unset, .unset] [(.ref b1), (.ref b1)])) _
    refine XS.bipush X31.here hx rfl (hb hby at_70) ?_
    show Steps p.tables e below (T31.setTop (mkF m 72 #[.val (.int p1), .unset, .unset, .unset, .unset, .unset] [(.int (10 : Int32)), (.ref b1), (.ref b1)])) _
    refine st32 _ ?_
    show Steps p.tables e below (T32.setTop (mkF m 75 #[.val (.int p1), .unset, .unset, .unset, .unset, .unset] [(.ref w_ISO_COSTS), (.int (10 : Int32)), (.ref b1), (.ref b1)])) _
    refine st34 _ ?_
    show Steps p.tables e below (T34.setTop (mkF m 76 #[.val (.int p1), .unset, .unset, .unset, .unset, .unset] [(.ref b1)])) _
    refine XS.dup X34.here hx rfl (hb hby at_76) rfl rfl ?_
    show Steps p.tables e below (T34.setTop (mkF m 77 #[.val (.int p1), .unset, .unset, .unset, .unset, .unset] [(.ref b1), (.ref b1)])) _
    refine XS.bipush X34.here hx rfl (hb hby at_77) ?_
    show Steps p.tables e below (T34.setTop (mkF m 79 #[.val (.int p1), .unset, .unset, .unset, .unset, .unset] [(.int (11 : Int32)), (.ref b1), (.ref b1)])) _
    refine st35 _ ?_
    show Steps p.tables e below (T35.setTop (mkF m 82 #[.val (.int p1), .unset, .unset, .unset, .unset, .unset] [(.ref w_DISTRIBUTION_ACCESS_CHARGES), (.int (11 : Int32)), (.ref b1), (.ref b1)])) _
    refine st37 _ ?_
    show Steps p.tables e below (T37.setTop (mkF m 83 #[.val (.int p1), .unset, .unset, .unset, .unset, .unset] [(.ref b1)])) _
    refine XS.astoreN X37.here hx rfl (hb hby at_83) rfl rfl (l' := #[.val (.int p1), .val (.ref b1), .unset, .unset, .unset, .unset]) rfl ?_
    show Steps p.tables e below (T37.setTop (mkF m 84 #[.val (.int p1), .val (.ref b1), .unset, .unset, .unset, .unset] [])) _
    refine XS.iloadN X37.here hx rfl (hb hby at_84) rfl ?_
    show Steps p.tables e below (T37.setTop (mkF m 85 #[.val (.int p1), .val (.ref b1), .unset, .unset, .unset, .unset] [(.int p1)])) _
    refine X37.ldcInt hx hown (mvT hZ (wd28 hw)) (g := (mkF m 85 #[.val (.int p1), .val (.ref b1), .unset, .unset, .unset, .unset] [(.int p1)])) rfl (hb hby at_85) _ ?_
    show Steps p.tables e below (T37.setTop (mkF m 87 #[.val (.int p1), .val (.ref b1), .unset, .unset, .unset, .unset] [(.int (2147483647 : Int32)), (.int p1)])) _
    refine XS.iand X37.here hx rfl (hb hby at_87) rfl ?_
    show Steps p.tables e below (T37.setTop (mkF m 88 #[.val (.int p1), .val (.ref b1), .unset, .unset, .unset, .unset] [(.int (p1 &&& (2147483647 : Int32)))])) _
    refine XS.bipush X37.here hx rfl (hb hby at_88) ?_
    show Steps p.tables e below (T37.setTop (mkF m 90 #[.val (.int p1), .val (.ref b1), .unset, .unset, .unset, .unset] [(.int (12 : Int32)), (.int (p1 &&& (2147483647 : Int32)))])) _
    refine iremM X37 hx rfl (hb hby at_90) rfl (by decide) ?_
    show Steps p.tables e below (T37.setTop (mkF m 91 #[.val (.int p1), .val (.ref b1), .unset, .unset, .unset, .unset] [(.int ((p1 &&& (2147483647 : Int32)) % (12 : Int32)))])) _
    rw [pr25]
    show Steps p.tables e below (T37.setTop (mkF m 91 #[.val (.int p1), .val (.ref b1), .unset, .unset, .unset, .unset] [(.int (2 : Int32))])) _
    refine XS.istoreN X37.here hx rfl (hb hby at_91) rfl (l' := #[.val (.int p1), .val (.ref b1), .val (.int (2 : Int32)), .unset, .unset, .unset]) rfl ?_
    show Steps p.tables e below (T37.setTop (mkF m 92 #[.val (.int p1), .val (.ref b1), .val (.int (2 : Int32)), .unset, .unset, .unset] [])) _
    refine XS.aloadN X37.here hx rfl (hb hby at_92) rfl rfl ?_
    show Steps p.tables e below (T37.setTop (mkF m 93 #[.val (.int p1), .val (.ref b1), .val (.int (2 : Int32)), .unset, .unset, .unset] [(.ref b1)])) _
    refine XS.iloadN X37.here hx rfl (hb hby at_93) rfl ?_
    show Steps p.tables e below (T37.setTop (mkF m 94 #[.val (.int p1), .val (.ref b1), .val (.int (2 : Int32)), .unset, .unset, .unset] [(.int (2 : Int32)), (.ref b1)])) _
    refine X37.aaload hx (j := (2 : Int32)) (v := (.ref w_ON_PEAK_ENERGY)) (by rw [e37]; exact Ar38.1) (State.isArrayOf_alike hZ.alike Ar38.2.1) rfl Ar38.2.2 hin38 hat38 (g := (mkF m 94 #[.val (.int p1), .val (.ref b1), .val (.int (2 : Int32)), .unset, .unset, .unset] [(.int (2 : Int32)), (.ref b1)])) rfl rfl (hb hby at_94) _ ?_
    show Steps p.tables e below (T37.setTop (mkF m 95 #[.val (.int p1), .val (.ref b1), .val (.int (2 : Int32)), .unset, .unset, .unset] [(.ref w_ON_PEAK_ENERGY)])) _
    refine XS.astoreN X37.here hx rfl (hb hby at_95) rfl rfl (l' := #[.val (.int p1), .val (.ref b1), .val (.int (2 : Int32)), .val (.ref w_ON_PEAK_ENERGY), .unset, .unset]) rfl ?_
    show Steps p.tables e below (T37.setTop (mkF m 96 #[.val (.int p1), .val (.ref b1), .val (.int (2 : Int32)), .val (.ref w_ON_PEAK_ENERGY), .unset, .unset] [])) _
    refine XS.iloadN X37.here hx rfl (hb hby at_96) rfl ?_
    show Steps p.tables e below (T37.setTop (mkF m 97 #[.val (.int p1), .val (.ref b1), .val (.int (2 : Int32)), .val (.ref w_ON_PEAK_ENERGY), .unset, .unset] [(.int (2 : Int32))])) _
    refine XS.bipush X37.here hx rfl (hb hby at_97) ?_
    show Steps p.tables e below (T37.setTop (mkF m 99 #[.val (.int p1), .val (.ref b1), .val (.int (2 : Int32)), .val (.ref w_ON_PEAK_ENERGY), .unset, .unset] [(.int (7 : Int32)), (.int (2 : Int32))])) _
    refine XS.icmpNo X37.here hx rfl (hb hby at_99) rfl (feq (by decide : ¬ ((2 : Int32) = (7 : Int32)))).1 ?_
    show Steps p.tables e below (T37.setTop (mkF m 102 #[.val (.int p1), .val (.ref b1), .val (.int (2 : Int32)), .val (.ref w_ON_PEAK_ENERGY), .unset, .unset] [])) _
    refine XS.iloadN X37.here hx rfl (hb hby at_102) rfl ?_
    show Steps p.tables e below (T37.setTop (mkF m 103 #[.val (.int p1), .val (.ref b1), .val (.int (2 : Int32)), .val (.ref w_ON_PEAK_ENERGY), .unset, .unset] [(.int (2 : Int32))])) _
    refine XS.bipush X37.here hx rfl (hb hby at_103) ?_
    show Steps p.tables e below (T37.setTop (mkF m 105 #[.val (.int p1), .val (.ref b1), .val (.int (2 : Int32)), .val (.ref w_ON_PEAK_ENERGY), .unset, .unset] [(.int (8 : Int32)), (.int (2 : Int32))])) _
    refine XS.icmpNo X37.here hx rfl (hb hby at_105) rfl (feq (by decide : ¬ ((2 : Int32) = (8 : Int32)))).1 ?_
    show Steps p.tables e below (T37.setTop (mkF m 108 #[.val (.int p1), .val (.ref b1), .val (.int (2 : Int32)), .val (.ref w_ON_PEAK_ENERGY), .unset, .unset] [])) _
    refine XS.iloadN X37.here hx rfl (hb hby at_108) rfl ?_
    show Steps p.tables e below (T37.setTop (mkF m 109 #[.val (.int p1), .val (.ref b1), .val (.int (2 : Int32)), .val (.ref w_ON_PEAK_ENERGY), .unset, .unset] [(.int (2 : Int32))])) _
    refine XS.bipush X37.here hx rfl (hb hby at_109) ?_
    show Steps p.tables e below (T37.setTop (mkF m 111 #[.val (.int p1), .val (.ref b1), .val (.int (2 : Int32)), .val (.ref w_ON_PEAK_ENERGY), .unset, .unset] [(.int (9 : Int32)), (.int (2 : Int32))])) _
    refine XS.icmpYes X37.here hx rfl (pc0 := 111) (pc' := 118) rfl (hb hby at_111) rfl (feq (by decide : ¬ ((2 : Int32) = (9 : Int32)))).2 (by decide) (by decide) ?_
    show Steps p.tables e below (T37.setTop (mkF m 118 #[.val (.int p1), .val (.ref b1), .val (.int (2 : Int32)), .val (.ref w_ON_PEAK_ENERGY), .unset, .unset] [])) _
    refine XS.iconst X37.here hx rfl (hb hby at_118) ?_
    show Steps p.tables e below (T37.setTop (mkF m 119 #[.val (.int p1), .val (.ref b1), .val (.int (2 : Int32)), .val (.ref w_ON_PEAK_ENERGY), .unset, .unset] [(.int (0 : Int32))])) _
    refine XS.istore X37.here hx rfl (hb hby at_119) rfl (l' := #[.val (.int p1), .val (.ref b1), .val (.int (2 : Int32)), .val (.ref w_ON_PEAK_ENERGY), .val (.int (0 : Int32)), .unset]) rfl ?_
    show Steps p.tables e below (T37.setTop (mkF m 121 #[.val (.int p1), .val (.ref b1), .val (.int (2 : Int32)), .val (.ref w_ON_PEAK_ENERGY), .val (.int (0 : Int32)), .unset] [])) _
    refine XS.aloadN X37.here hx rfl (hb hby at_121) rfl rfl ?_
    show Steps p.tables e below (T37.setTop (mkF m 122 #[.val (.int p1), .val (.ref b1), .val (.int (2 : Int32)), .val (.ref w_ON_PEAK_ENERGY), .val (.int (0 : Int32)), .unset] [(.ref w_ON_PEAK_ENERGY)])) _
    refine st39.trans ?_
    show Steps p.tables e below (T39.setTop (mkF m 125 #[.val (.int p1), .val (.ref b1), .val (.int (2 : Int32)), .val (.ref w_ON_PEAK_ENERGY), .val (.int (0 : Int32)), .unset] [(.int (0 : Int32))])) _
    refine XS.istore X39.here hx rfl (hb hby at_125) rfl (l' := #[.val (.int p1), .val (.ref b1), .val (.int (2 : Int32)), .val (.ref w_ON_PEAK_ENERGY), .val (.int (0 : Int32)), .val (.int (0 : Int32))]) rfl ?_
    show Steps p.tables e below (T39.setTop (mkF m 127 #[.val (.int p1), .val (.ref b1), .val (.int (2 : Int32)), .val (.ref w_ON_PEAK_ENERGY), .val (.int (0 : Int32)), .val (.int (0 : Int32))] [])) _
    refine XS.iload X39.here hx rfl (hb hby at_127) rfl ?_
    show Steps p.tables e below (T39.setTop (mkF m 129 #[.val (.int p1), .val (.ref b1), .val (.int (2 : Int32)), .val (.ref w_ON_PEAK_ENERGY), .val (.int (0 : Int32)), .val (.int (0 : Int32))] [(.int (0 : Int32))])) _
    refine XS.iload X39.here hx rfl (hb hby at_129) rfl ?_
    show Steps p.tables e below (T39.setTop (mkF m 131 #[.val (.int p1), .val (.ref b1), .val (.int (2 : Int32)), .val (.ref w_ON_PEAK_ENERGY), .val (.int (0 : Int32)), .val (.int (0 : Int32))] [(.int (0 : Int32)), (.int (0 : Int32))])) _
    refine XS.icmpYes X39.here hx rfl (pc0 := 131) (pc' := 136) rfl (hb hby at_131) rfl (teq (rfl : (0 : Int32) = (0 : Int32))).1 (by decide) (by decide) ?_
    show Steps p.tables e below (T39.setTop (mkF m 136 #[.val (.int p1), .val (.ref b1), .val (.int (2 : Int32)), .val (.ref w_ON_PEAK_ENERGY), .val (.int (0 : Int32)), .val (.int (0 : Int32))] [])) _
    refine XS.iload X39.here hx rfl (hb hby at_136) rfl ?_
    show Steps p.tables e below (T39.setTop (mkF m 138 #[.val (.int p1), .val (.ref b1), .val (.int (2 : Int32)), .val (.ref w_ON_PEAK_ENERGY), .val (.int (0 : Int32)), .val (.int (0 : Int32))] [(.int (0 : Int32))])) _
    refine XS.ifYes X39.here hx rfl (pc0 := 138) (pc' := 164) rfl (hb hby at_138) rfl ((if0 _ _).trans (teq (rfl : (0 : Int32) = (0 : Int32))).1) (by decide) (by decide) ?_
    show Steps p.tables e below (T39.setTop (mkF m 164 #[.val (.int p1), .val (.ref b1), .val (.int (2 : Int32)), .val (.ref w_ON_PEAK_ENERGY), .val (.int (0 : Int32)), .val (.int (0 : Int32))] [])) _
    refine XS.iconst X39.here hx rfl (hb hby at_164) ?_
    show Steps p.tables e below (T39.setTop (mkF m 165 #[.val (.int p1), .val (.ref b1), .val (.int (2 : Int32)), .val (.ref w_ON_PEAK_ENERGY), .val (.int (0 : Int32)), .val (.int (0 : Int32))] [(.int (1 : Int32))])) _
    exact retN X39 hx (t := .boolean) Bd.returns (by simp) (hb hby at_165) hr
  · exact ⟨rfl, N39⟩
set_option maxRecDepth 65536 in
set_option maxHeartbeats 40000000 in
theorem rm0_3 (l : Launch) (Z : State) (a0 : Array Value) (hw : ∀ d ∈ tables_1, d.before a0 Z = true) (ws : List Jvm.Cond) (p1 : Int32) (w_DAYS : Addr) (w_ENERGY : Addr) (w_ON_PEAK_ENERGY : Addr) (w_OFF_PEAK_ENERGY : Addr) (w_BILLING_DEMAND_DAYS : Addr) (w_METERED_DEMAND_DAYS : Addr) (w_FIXTURE_DAYS : Addr) (w_HIGHEST_HOUR_ENERGY : Addr) (w_GAS_INDEXED_ENERGY : Addr) (w_POOL_PRICED_ENERGY : Addr) (w_ISO_COSTS : Addr) (w_DISTRIBUTION_ACCESS_CHARGES : Addr) (h0 : Heap) (n0 : Nat) (OL0 : Old Z n0 h0) (pr1 : Sta Z Z.heap "com/example/tarcal/tarcal/schedules/Basis" "DAYS" "Lcom/example/tarcal/tarcal/schedules/Basis;" (.ref w_DAYS)) (pr2 : Exa Z Z.heap w_DAYS "com/example/tarcal/tarcal/schedules/Basis") (pr3 : Sta Z Z.heap "com/example/tarcal/tarcal/schedules/Basis" "ENERGY" "Lcom/example/tarcal/tarcal/schedules/Basis;" (.ref w_ENERGY)) (pr4 : Exa Z Z.heap w_ENERGY "com/example/tarcal/tarcal/schedules/Basis") (pr5 : Sta Z Z.heap "com/example/tarcal/tarcal/schedules/Basis" "ON_PEAK_ENERGY" "Lcom/example/tarcal/tarcal/schedules/Basis;" (.ref w_ON_PEAK_ENERGY)) (pr6 : Exa Z Z.heap w_ON_PEAK_ENERGY "com/example/tarcal/tarcal/schedules/Basis") (pr7 : Sta Z Z.heap "com/example/tarcal/tarcal/schedules/Basis" "OFF_PEAK_ENERGY" "Lcom/example/tarcal/tarcal/schedules/Basis;" (.ref w_OFF_PEAK_ENERGY)) (pr8 : Exa Z Z.heap w_OFF_PEAK_ENERGY "com/example/tarcal/tarcal/schedules/Basis") (pr9 : Sta Z Z.heap "com/example/tarcal/tarcal/schedules/Basis" "BILLING_DEMAND_DAYS" "Lcom/example/tarcal/tarcal/schedules/Basis;" (.ref w_BILLING_DEMAND_DAYS)) (pr10 : Exa Z Z.heap w_BILLING_DEMAND_DAYS "com/example/tarcal/tarcal/schedules/Basis") (pr11 : Sta Z Z.heap "com/example/tarcal/tarcal/schedules/Basis" "METERED_DEMAND_DAYS" "Lcom/example/tarcal/tarcal/schedules/Basis;" (.ref w_METERED_DEMAND_DAYS)) (pr12 : Exa Z Z.heap w_METERED_DEMAND_DAYS "com/example/tarcal/tarcal/schedules/Basis") (pr13 : Sta Z Z.heap "com/example/tarcal/tarcal/schedules/Basis" "FIXTURE_DAYS" "Lcom/example/tarcal/tarcal/schedules/Basis;" (.ref w_FIXTURE_DAYS)) (pr14 : Exa Z Z.heap w_FIXTURE_DAYS "com/example/tarcal/tarcal/schedules/Basis") (pr15 : Sta Z Z.heap "com/example/tarcal/tarcal/schedules/Basis" "HIGHEST_HOUR_ENERGY" "Lcom/example/tarcal/tarcal/schedules/Basis;" (.ref w_HIGHEST_HOUR_ENERGY)) (pr16 : Exa Z Z.heap w_HIGHEST_HOUR_ENERGY "com/example/tarcal/tarcal/schedules/Basis") (pr17 : Sta Z Z.heap "com/example/tarcal/tarcal/schedules/Basis" "GAS_INDEXED_ENERGY" "Lcom/example/tarcal/tarcal/schedules/Basis;" (.ref w_GAS_INDEXED_ENERGY)) (pr18 : Exa Z Z.heap w_GAS_INDEXED_ENERGY "com/example/tarcal/tarcal/schedules/Basis") (pr19 : Sta Z Z.heap "com/example/tarcal/tarcal/schedules/Basis" "POOL_PRICED_ENERGY" "Lcom/example/tarcal/tarcal/schedules/Basis;" (.ref w_POOL_PRICED_ENERGY)) (pr20 : Exa Z Z.heap w_POOL_PRICED_ENERGY "com/example/tarcal/tarcal/schedules/Basis") (pr21 : Sta Z Z.heap "com/example/tarcal/tarcal/schedules/Basis" "ISO_COSTS" "Lcom/example/tarcal/tarcal/schedules/Basis;" (.ref w_ISO_COSTS)) (pr22 : Exa Z Z.heap w_ISO_COSTS "com/example/tarcal/tarcal/schedules/Basis") (pr23 : Sta Z Z.heap "com/example/tarcal/tarcal/schedules/Basis" "DISTRIBUTION_ACCESS_CHARGES" "Lcom/example/tarcal/tarcal/schedules/Basis;" (.ref w_DISTRIBUTION_ACCESS_CHARGES)) (pr24 : Exa Z Z.heap w_DISTRIBUTION_ACCESS_CHARGES "com/example/tarcal/tarcal/schedules/Basis") (pr25 : ((p1 &&& (2147483647 : Int32)) % (12 : Int32)) = (3 : Int32)) (pr26 : w_OFF_PEAK_ENERGY ≠ w_HIGHEST_HOUR_ENERGY) (pr27 : w_OFF_PEAK_ENERGY ≠ w_GAS_INDEXED_ENERGY) (pr28 : w_OFF_PEAK_ENERGY ≠ w_POOL_PRICED_ENERGY) :
    MetFree l x (head1 (Jvm.Cond.code x code maxLocals ret :: ws) room_1) (fun a U => a = #[(.int p1)] ∧ Z.Warmed39 U.vm ∧ U.heap = h0) (fun _ _ _ _ _ => True) (fun _ U o U' => ∃ v L, o = .returned v ∧ Q0 n0 v L ∧ FrameEnd U o U' L 16 128) := by
  refine MetFree.of_bodySF (plainFor_of_name pn_1) hisR ?_
  intro p e s m args below meth c s₁ Bd hml0 hP hK
  obtain ⟨rfl, hZ, hh⟩ := hP
  have hx := Bd.exec
  have hby := Bd.bytes
  have hml : c.maxLocals = 6 := hml0
  have hown : s.vm.findClass "com/example/tarcal/tarcal/schedules/BasisPerPeriodPinLaw" = some m.cls := findClass_of_methodNamed Bd.named
  have hnm := (name_of_methodNamed Bd.named Bd.method).1
  have X0 : Stand p l e room_1 s m #[(.int p1)] below meth c s₁ [] 0 0 := Stand.of_body Bd
  have e0 : s₁.heap = h0 := by rw [← hh, Bd.state]; rfl
  have N0 := Fr.nil n0
  have pre0 : ∀ t, Steps p.tables e below (s₁.setTop (mkF m 0 #[.val (.int p1), .unset, .unset, .unset, .unset, .unset] [])) t → Steps p.tables e below (s₁.setTop (entryFrame m #[(.int p1)] maxLocals)) t := fun t k => castTop (ef_0_1 m p1) k
  obtain ⟨T1, h1, k1, X1, e1, E1, A1, O1, st1⟩ := newR X0 hx hZ hown (wd0 hw) (wd1 hw) e0 (g := (mkF m 2 #[.val (.int p1), .unset, .unset, .unset, .unset, .unset] [(.int (12 : Int32))])) rfl (hb hby at_2) rfl (by decide) (cap := 12) (by decide) (by decide) (by decide) (by decide)
  obtain ⟨b1, g1⟩ : ∃ z, z = h0.size := ⟨_, rfl⟩
  rw [← g1] at A1 st1
  have V1 : Arv Z h1 b1 k1 (.object "com/example/tarcal/tarcal/schedules/Basis") (12 : Int32) [.null, .null, .null, .null, .null, .null, .null, .null, .null, .null, .null, .null] .null := (Arv.new A1 (by decide)).pad (pad_rep [] .null 12)
  have g_b1 : n0 ≤ b1 := (Nat.le_trans (Nat.le_trans (Nat.le_of_eq OL0.1.symm) OL0.2.1) (Nat.le_of_eq g1.symm))
  have sz_b1 : h0.size ≤ b1 := (Nat.le_trans (Keep.refl h0 []).1 (Nat.le_of_eq g1.symm))
  have KK1 : Keep h0 h1 [] := (Keep.refl h0 []).ext E1
  have OL1 := OL0.ext E1
  obtain ⟨T2, X2, e2, st2⟩ := getS2 X1 hx hZ hown (host := "") (Or.inl (wd2 hw)) Via.refl e1 (pr1.ext OL1.2) (g := (mkF m 7 #[.val (.int p1), .unset, .unset, .unset, .unset, .unset] [(.int (0 : Int32)), (.ref b1), (.ref b1)])) rfl (hb hby at_7)
  obtain ⟨cl3, Ar3, q3, S3, M3, Hs3, G3⟩ := V1
  have hin3 : ¬ ((0 : Int32) < 0 ∨ cl3.slots.size ≤ ((0 : Int32)).toNatClampNeg) := inb_of S3 ⟨by decide, by decide⟩
  obtain ⟨T4, h4, X4, e4, W4, st4⟩ := stR X2 hx hZ e2 Ar3 (j := (0 : Int32)) hin3 rfl (Sto.ofV Ar3 q3 O1 (Ins.self (pr2.ext OL1.2))) (g := (mkF m 10 #[.val (.int p1), .unset, .unset, .unset, .unset, .unset] [(.ref w_DAYS), (.int (0 : Int32)), (.ref b1), (.ref b1)])) rfl rfl (hb hby at_10)
  have V4 : Arv Z h4 b1 k1 (.object "com/example/tarcal/tarcal/schedules/Basis") (12 : Int32) [(.ref w_DAYS), .null, .null, .null, .null, .null, .null, .null, .null, .null, .null, .null] .null := Arv.set Ar3 q3 S3 M3 Hs3 G3 rfl W4 0 rfl (Nat.le_of_ble_eq_true rfl)
  have KK4 : Keep h0 h4 [] := KK1.wr W4 (Or.inr sz_b1)
  have OL4 := OL1.wr W4 g_b1
  have N4 := Fr.snoc X4 N0 g_b1
  obtain ⟨T5, X5, e5, st5⟩ := getS2 X4 hx hZ hown (host := "") (Or.inl (wd6 hw)) Via.refl e4 (pr3.ext OL4.2) (g := (mkF m 13 #[.val (.int p1), .unset, .unset, .unset, .unset, .unset] [(.int (1 : Int32)), (.ref b1), (.ref b1)])) rfl (hb hby at_13)
  obtain ⟨cl6, Ar6, q6, S6, M6, Hs6, G6⟩ := V4
  have hin6 : ¬ ((1 : Int32) < 0 ∨ cl6.slots.size ≤ ((1 : Int32)).toNatClampNeg) := inb_of S6 ⟨by decide, by decide⟩
  obtain ⟨T7, h7, X7, e7, W7, st7⟩ := stR X5 hx hZ e5 Ar6 (j := (1 : Int32)) hin6 rfl (Sto.ofV Ar6 q6 O1 (Ins.self (pr4.ext OL4.2))) (g := (mkF m 16 #[.val (.int p1), .unset, .unset, .unset, .unset, .unset] [(.ref w_ENERGY), (.int (1 : Int32)), (.ref b1), (.ref b1)])) rfl rfl (hb hby at_16)
  have V7 : Arv Z h7 b1 k1 (.object "com/example/tarcal/tarcal/schedules/Basis") (12 : Int32) [(.ref w_DAYS), (.ref w_ENERGY), .null, .null, .null, .null, .null, .null, .null, .null, .null, .null] .null := Arv.set Ar6 q6 S6 M6 Hs6 G6 rfl W7 1 rfl (Nat.le_of_ble_eq_true rfl)
  have KK7 : Keep h0 h7 [] := KK4.wr W7 (Or.inr sz_b1)
  have OL7 := OL4.wr W7 g_b1
  have N7 := Fr.snoc X7 N4 g_b1
  obtain ⟨T8, X8, e8, st8⟩ := getS2 X7 hx hZ hown (host := "") (Or.inl (wd8 hw)) Via.refl e7 (pr5.ext OL7.2) (g := (mkF m 19 #[.val (.int p1), .unset, .unset, .unset, .unset, .unset] [(.int (2 : Int32)), (.ref b1), (.ref b1)])) rfl (hb hby at_19)
  obtain ⟨cl9, Ar9, q9, S9, M9, Hs9, G9⟩ := V7
  have hin9 : ¬ ((2 : Int32) < 0 ∨ cl9.slots.size ≤ ((2 : Int32)).toNatClampNeg) := inb_of S9 ⟨by decide, by decide⟩
  obtain ⟨T10, h10, X10, e10, W10, st10⟩ := stR X8 hx hZ e8 Ar9 (j := (2 : Int32)) hin9 rfl (Sto.ofV Ar9 q9 O1 (Ins.self (pr6.ext OL7.2))) (g := (mkF m 22 #[.val (.int p1), .unset, .unset, .unset, .unset, .unset] [(.ref w_ON_PEAK_ENERGY), (.int (2 : Int32)), (.ref b1), (.ref b1)])) rfl rfl (hb hby at_22)
  have V10 : Arv Z h10 b1 k1 (.object "com/example/tarcal/tarcal/schedules/Basis") (12 : Int32) [(.ref w_DAYS), (.ref w_ENERGY), (.ref w_ON_PEAK_ENERGY), .null, .null, .null, .null, .null, .null, .null, .null, .null] .null := Arv.set Ar9 q9 S9 M9 Hs9 G9 rfl W10 2 rfl (Nat.le_of_ble_eq_true rfl)
  have KK10 : Keep h0 h10 [] := KK7.wr W10 (Or.inr sz_b1)
  have OL10 := OL7.wr W10 g_b1
  have N10 := Fr.snoc X10 N7 g_b1
  obtain ⟨T11, X11, e11, st11⟩ := getS2 X10 hx hZ hown (host := "") (Or.inl (wd10 hw)) Via.refl e10 (pr7.ext OL10.2) (g := (mkF m 25 #[.val (.int p1), .unset, .unset, .unset, .unset, .unset] [(.int (3 : Int32)), (.ref b1), (.ref b1)])) rfl (hb hby at_25)
  obtain ⟨cl12, Ar12, q12, S12, M12, Hs12, G12⟩ := V10
  have hin12 : ¬ ((3 : Int32) < 0 ∨ cl12.slots.size ≤ ((3 : Int32)).toNatClampNeg) := inb_of S12 ⟨by decide, by decide⟩
  obtain ⟨T13, h13, X13, e13, W13, st13⟩ := stR X11 hx hZ e11 Ar12 (j := (3 : Int32)) hin12 rfl (Sto.ofV Ar12 q12 O1 (Ins.self (pr8.ext OL10.2))) (g := (mkF m 28 #[.val (.int p1), .unset, .unset, .unset, .unset, .unset] [(.ref w_OFF_PEAK_ENERGY), (.int (3 : Int32)), (.ref b1), (.ref b1)])) rfl rfl (hb hby at_28)
  have V13 : Arv Z h13 b1 k1 (.object "com/example/tarcal/tarcal/schedules/Basis") (12 : Int32) [(.ref w_DAYS), (.ref w_ENERGY), (.ref w_ON_PEAK_ENERGY), (.ref w_OFF_PEAK_ENERGY), .null, .null, .null, .null, .null, .null, .null, .null] .null := Arv.set Ar12 q12 S12 M12 Hs12 G12 rfl W13 3 rfl (Nat.le_of_ble_eq_true rfl)
  have KK13 : Keep h0 h13 [] := KK10.wr W13 (Or.inr sz_b1)
  have OL13 := OL10.wr W13 g_b1
  have N13 := Fr.snoc X13 N10 g_b1
  obtain ⟨T14, X14, e14, st14⟩ := getS2 X13 hx hZ hown (host := "") (Or.inl (wd12 hw)) Via.refl e13 (pr9.ext OL13.2) (g := (mkF m 31 #[.val (.int p1), .unset, .unset, .unset, .unset, .unset] [(.int (4 : Int32)), (.ref b1), (.ref b1)])) rfl (hb hby at_31)
  obtain ⟨cl15, Ar15, q15, S15, M15, Hs15, G15⟩ := V13
  have hin15 : ¬ ((4 : Int32) < 0 ∨ cl15.slots.size ≤ ((4 : Int32)).toNatClampNeg) := inb_of S15 ⟨by decide, by decide⟩
  obtain ⟨T16, h16, X16, e16, W16, st16⟩ := stR X14 hx hZ e14 Ar15 (j := (4 : Int32)) hin15 rfl (Sto.ofV Ar15 q15 O1 (Ins.self (pr10.ext OL13.2))) (g := (mkF m 34 #[.val (.int p1), .unset, .unset, .unset, .unset, .unset] [(.ref w_BILLING_DEMAND_DAYS), (.int (4 : Int32)), (.ref b1), (.ref b1)])) rfl rfl (hb hby at_34)
  have V16 : Arv Z h16 b1 k1 (.object "com/example/tarcal/tarcal/schedules/Basis") (12 : Int32) [(.ref w_DAYS), (.ref w_ENERGY), (.ref w_ON_PEAK_ENERGY), (.ref w_OFF_PEAK_ENERGY), (.ref w_BILLING_DEMAND_DAYS), .null, .null, .null, .null, .null, .null, .null] .null := Arv.set Ar15 q15 S15 M15 Hs15 G15 rfl W16 4 rfl (Nat.le_of_ble_eq_true rfl)
  have KK16 : Keep h0 h16 [] := KK13.wr W16 (Or.inr sz_b1)
  have OL16 := OL13.wr W16 g_b1
  have N16 := Fr.snoc X16 N13 g_b1
  obtain ⟨T17, X17, e17, st17⟩ := getS2 X16 hx hZ hown (host := "") (Or.inl (wd14 hw)) Via.refl e16 (pr11.ext OL16.2) (g := (mkF m 37 #[.val (.int p1), .unset, .unset, .unset, .unset, .unset] [(.int (5 : Int32)), (.ref b1), (.ref b1)])) rfl (hb hby at_37)
  obtain ⟨cl18, Ar18, q18, S18, M18, Hs18, G18⟩ := V16
  have hin18 : ¬ ((5 : Int32) < 0 ∨ cl18.slots.size ≤ ((5 : Int32)).toNatClampNeg) := inb_of S18 ⟨by decide, by decide⟩
  obtain ⟨T19, h19, X19, e19, W19, st19⟩ := stR X17 hx hZ e17 Ar18 (j := (5 : Int32)) hin18 rfl (Sto.ofV Ar18 q18 O1 (Ins.self (pr12.ext OL16.2))) (g := (mkF m 40 #[.val (.int p1), .unset, .unset, .unset, .unset, .unset] [(.ref w_METERED_DEMAND_DAYS), (.int (5 : Int32)), (.ref b1), (.ref b1)])) rfl rfl (hb hby at_40)
  have V19 : Arv Z h19 b1 k1 (.object "com/example/tarcal/tarcal/schedules/Basis") (12 : Int32) [(.ref w_DAYS), (.ref w_ENERGY), (.ref w_ON_PEAK_ENERGY), (.ref w_OFF_PEAK_ENERGY), (.ref w_BILLING_DEMAND_DAYS), (.ref w_METERED_DEMAND_DAYS), .null, .null, .null, .null, .null, .null] .null := Arv.set Ar18 q18 S18 M18 Hs18 G18 rfl W19 5 rfl (Nat.le_of_ble_eq_true rfl)
  have KK19 : Keep h0 h19 [] := KK16.wr W19 (Or.inr sz_b1)
  have OL19 := OL16.wr W19 g_b1
  have N19 := Fr.snoc X19 N16 g_b1
  obtain ⟨T20, X20, e20, st20⟩ := getS2 X19 hx hZ hown (host := "") (Or.inl (wd16 hw)) Via.refl e19 (pr13.ext OL19.2) (g := (mkF m 44 #[.val (.int p1), .unset, .unset, .unset, .unset, .unset] [(.int (6 : Int32)), (.ref b1), (.ref b1)])) rfl (hb hby at_44)
  obtain ⟨cl21, Ar21, q21, S21, M21, Hs21, G21⟩ := V19
  have hin21 : ¬ ((6 : Int32) < 0 ∨ cl21.slots.size ≤ ((6 : Int32)).toNatClampNeg) := inb_of S21 ⟨by decide, by decide⟩
  obtain ⟨T22, h22, X22, e22, W22, st22⟩ := stR X20 hx hZ e20 Ar21 (j := (6 : Int32)) hin21 rfl (Sto.ofV Ar21 q21 O1 (Ins.self (pr14.ext OL19.2))) (g := (mkF m 47 #[.val (.int p1), .unset, .unset, .unset, .unset, .unset] [(.ref w_FIXTURE_DAYS), (.int (6 : Int32)), (.ref b1), (.ref b1)])) rfl rfl (hb hby at_47)
  have V22 : Arv Z h22 b1 k1 (.object "com/example/tarcal/tarcal/schedules/Basis") (12 : Int32) [(.ref w_DAYS), (.ref w_ENERGY), (.ref w_ON_PEAK_ENERGY), (.ref w_OFF_PEAK_ENERGY), (.ref w_BILLING_DEMAND_DAYS), (.ref w_METERED_DEMAND_DAYS), (.ref w_FIXTURE_DAYS), .null, .null, .null, .null, .null] .null := Arv.set Ar21 q21 S21 M21 Hs21 G21 rfl W22 6 rfl (Nat.le_of_ble_eq_true rfl)
  have KK22 : Keep h0 h22 [] := KK19.wr W22 (Or.inr sz_b1)
  have OL22 := OL19.wr W22 g_b1
  have N22 := Fr.snoc X22 N19 g_b1
  obtain ⟨T23, X23, e23, st23⟩ := getS2 X22 hx hZ hown (host := "") (Or.inl (wd18 hw)) Via.refl e22 (pr15.ext OL22.2) (g := (mkF m 51 #[.val (.int p1), .unset, .unset, .unset, .unset, .unset] [(.int (7 : Int32)), (.ref b1), (.ref b1)])) rfl (hb hby at_51)
  obtain ⟨cl24, Ar24, q24, S24, M24, Hs24, G24⟩ := V22
  have hin24 : ¬ ((7 : Int32) < 0 ∨ cl24.slots.size ≤ ((7 : Int32)).toNatClampNeg) := inb_of S24 ⟨by decide, by decide⟩
  obtain ⟨T25, h25, X25, e25, W25, st25⟩ := stR X23 hx hZ e23 Ar24 (j := (7 : Int32)) hin24 rfl (Sto.ofV Ar24 q24 O1 (Ins.self (pr16.ext OL22.2))) (g := (mkF m 54 #[.val (.int p1), .unset, .unset, .unset, .unset, .unset] [(.ref w_HIGHEST_HOUR_ENERGY), (.int (7 : Int32)), (.ref b1), (.ref b1)])) rfl rfl (hb hby at_54)
  have V25 : Arv Z h25 b1 k1 (.object "com/example/tarcal/tarcal/schedules/Basis") (12 : Int32) [(.ref w_DAYS), (.ref w_ENERGY), (.ref w_ON_PEAK_ENERGY), (.ref w_OFF_PEAK_ENERGY), (.ref w_BILLING_DEMAND_DAYS), (.ref w_METERED_DEMAND_DAYS), (.ref w_FIXTURE_DAYS), (.ref w_HIGHEST_HOUR_ENERGY), .null, .null, .null, .null] .null := Arv.set Ar24 q24 S24 M24 Hs24 G24 rfl W25 7 rfl (Nat.le_of_ble_eq_true rfl)
  have KK25 : Keep h0 h25 [] := KK22.wr W25 (Or.inr sz_b1)
  have OL25 := OL22.wr W25 g_b1
  have N25 := Fr.snoc X25 N22 g_b1
  obtain ⟨T26, X26, e26, st26⟩ := getS2 X25 hx hZ hown (host := "") (Or.inl (wd20 hw)) Via.refl e25 (pr17.ext OL25.2) (g := (mkF m 58 #[.val (.int p1), .unset, .unset, .unset, .unset, .unset] [(.int (8 : Int32)), (.ref b1), (.ref b1)])) rfl (hb hby at_58)
  obtain ⟨cl27, Ar27, q27, S27, M27, Hs27, G27⟩ := V25
  have hin27 : ¬ ((8 : Int32) < 0 ∨ cl27.slots.size ≤ ((8 : Int32)).toNatClampNeg) := inb_of S27 ⟨by decide, by decide⟩
  obtain ⟨T28, h28, X28, e28, W28, st28⟩ := stR X26 hx hZ e26 Ar27 (j := (8 : Int32)) hin27 rfl (Sto.ofV Ar27 q27 O1 (Ins.self (pr18.ext OL25.2))) (g := (mkF m 61 #[.val (.int p1), .unset, .unset, .unset, .unset, .unset] [(.ref w_GAS_INDEXED_ENERGY), (.int (8 : Int32)), (.ref b1), (.ref b1)])) rfl rfl (hb hby at_61)
  have V28 : Arv Z h28 b1 k1 (.object "com/example/tarcal/tarcal/schedules/Basis") (12 : Int32) [(.ref w_DAYS), (.ref w_ENERGY), (.ref w_ON_PEAK_ENERGY), (.ref w_OFF_PEAK_ENERGY), (.ref w_BILLING_DEMAND_DAYS), (.ref w_METERED_DEMAND_DAYS), (.ref w_FIXTURE_DAYS), (.ref w_HIGHEST_HOUR_ENERGY), (.ref w_GAS_INDEXED_ENERGY), .null, .null, .null] .null := Arv.set Ar27 q27 S27 M27 Hs27 G27 rfl W28 8 rfl (Nat.le_of_ble_eq_true rfl)
  have KK28 : Keep h0 h28 [] := KK25.wr W28 (Or.inr sz_b1)
  have OL28 := OL25.wr W28 g_b1
  have N28 := Fr.snoc X28 N25 g_b1
  obtain ⟨T29, X29, e29, st29⟩ := getS2 X28 hx hZ hown (host := "") (Or.inl (wd22 hw)) Via.refl e28 (pr19.ext OL28.2) (g := (mkF m 65 #[.val (.int p1), .unset, .unset, .unset, .unset, .unset] [(.int (9 : Int32)), (.ref b1), (.ref b1)])) rfl (hb hby at_65)
  obtain ⟨cl30, Ar30, q30, S30, M30, Hs30, G30⟩ := V28
  have hin30 : ¬ ((9 : Int32) < 0 ∨ cl30.slots.size ≤ ((9 : Int32)).toNatClampNeg) := inb_of S30 ⟨by decide, by decide⟩
  obtain ⟨T31, h31, X31, e31, W31, st31⟩ := stR X29 hx hZ e29 Ar30 (j := (9 : Int32)) hin30 rfl (Sto.ofV Ar30 q30 O1 (Ins.self (pr20.ext OL28.2))) (g := (mkF m 68 #[.val (.int p1), .unset, .unset, .unset, .unset, .unset] [(.ref w_POOL_PRICED_ENERGY), (.int (9 : Int32)), (.ref b1), (.ref b1)])) rfl rfl (hb hby at_68)
  have V31 : Arv Z h31 b1 k1 (.object "com/example/tarcal/tarcal/schedules/Basis") (12 : Int32) [(.ref w_DAYS), (.ref w_ENERGY), (.ref w_ON_PEAK_ENERGY), (.ref w_OFF_PEAK_ENERGY), (.ref w_BILLING_DEMAND_DAYS), (.ref w_METERED_DEMAND_DAYS), (.ref w_FIXTURE_DAYS), (.ref w_HIGHEST_HOUR_ENERGY), (.ref w_GAS_INDEXED_ENERGY), (.ref w_POOL_PRICED_ENERGY), .null, .null] .null := Arv.set Ar30 q30 S30 M30 Hs30 G30 rfl W31 9 rfl (Nat.le_of_ble_eq_true rfl)
  have KK31 : Keep h0 h31 [] := KK28.wr W31 (Or.inr sz_b1)
  have OL31 := OL28.wr W31 g_b1
  have N31 := Fr.snoc X31 N28 g_b1
  obtain ⟨T32, X32, e32, st32⟩ := getS2 X31 hx hZ hown (host := "") (Or.inl (wd24 hw)) Via.refl e31 (pr21.ext OL31.2) (g := (mkF m 72 #[.val (.int p1), .unset, .unset, .unset, .unset, .unset] [(.int (10 : Int32)), (.ref b1), (.ref b1)])) rfl (hb hby at_72)
  obtain ⟨cl33, Ar33, q33, S33, M33, Hs33, G33⟩ := V31
  have hin33 : ¬ ((10 : Int32) < 0 ∨ cl33.slots.size ≤ ((10 : Int32)).toNatClampNeg) := inb_of S33 ⟨by decide, by decide⟩
  obtain ⟨T34, h34, X34, e34, W34, st34⟩ := stR X32 hx hZ e32 Ar33 (j := (10 : Int32)) hin33 rfl (Sto.ofV Ar33 q33 O1 (Ins.self (pr22.ext OL31.2))) (g := (mkF m 75 #[.val (.int p1), .unset, .unset, .unset, .unset, .unset] [(.ref w_ISO_COSTS), (.int (10 : Int32)), (.ref b1), (.ref b1)])) rfl rfl (hb hby at_75)
  have V34 : Arv Z h34 b1 k1 (.object "com/example/tarcal/tarcal/schedules/Basis") (12 : Int32) [(.ref w_DAYS), (.ref w_ENERGY), (.ref w_ON_PEAK_ENERGY), (.ref w_OFF_PEAK_ENERGY), (.ref w_BILLING_DEMAND_DAYS), (.ref w_METERED_DEMAND_DAYS), (.ref w_FIXTURE_DAYS), (.ref w_HIGHEST_HOUR_ENERGY), (.ref w_GAS_INDEXED_ENERGY), (.ref w_POOL_PRICED_ENERGY), (.ref w_ISO_COSTS), .null] .null := Arv.set Ar33 q33 S33 M33 Hs33 G33 rfl W34 10 rfl (Nat.le_of_ble_eq_true rfl)
  have KK34 : Keep h0 h34 [] := KK31.wr W34 (Or.inr sz_b1)
  have OL34 := OL31.wr W34 g_b1
  have N34 := Fr.snoc X34 N31 g_b1
  obtain ⟨T35, X35, e35, st35⟩ := getS2 X34 hx hZ hown (host := "") (Or.inl (wd26 hw)) Via.refl e34 (pr23.ext OL34.2) (g := (mkF m 79 #[.val (.int p1), .unset, .unset, .unset, .unset, .unset] [(.int (11 : Int32)), (.ref b1), (.ref b1)])) rfl (hb hby at_79)
  obtain ⟨cl36, Ar36, q36, S36, M36, Hs36, G36⟩ := V34
  have hin36 : ¬ ((11 : Int32) < 0 ∨ cl36.slots.size ≤ ((11 : Int32)).toNatClampNeg) := inb_of S36 ⟨by decide, by decide⟩
  obtain ⟨T37, h37, X37, e37, W37, st37⟩ := stR X35 hx hZ e35 Ar36 (j := (11 : Int32)) hin36 rfl (Sto.ofV Ar36 q36 O1 (Ins.self (pr24.ext OL34.2))) (g := (mkF m 82 #[.val (.int p1), .unset, .unset, .unset, .unset, .unset] [(.ref w_DISTRIBUTION_ACCESS_CHARGES), (.int (11 : Int32)), (.ref b1), (.ref b1)])) rfl rfl (hb hby at_82)
  have V37 : Arv Z h37 b1 k1 (.object "com/example/tarcal/tarcal/schedules/Basis") (12 : Int32) [(.ref w_DAYS), (.ref w_ENERGY), (.ref w_ON_PEAK_ENERGY), (.ref w_OFF_PEAK_ENERGY), (.ref w_BILLING_DEMAND_DAYS), (.ref w_METERED_DEMAND_DAYS), (.ref w_FIXTURE_DAYS), (.ref w_HIGHEST_HOUR_ENERGY), (.ref w_GAS_INDEXED_ENERGY), (.ref w_POOL_PRICED_ENERGY), (.ref w_ISO_COSTS), (.ref w_DISTRIBUTION_ACCESS_CHARGES)] .null := Arv.set Ar36 q36 S36 M36 Hs36 G36 rfl W37 11 rfl (Nat.le_of_ble_eq_true rfl)
  have KK37 : Keep h0 h37 [] := KK34.wr W37 (Or.inr sz_b1)
  have OL37 := OL34.wr W37 g_b1
  have N37 := Fr.snoc X37 N34 g_b1
  obtain ⟨cl38, Ar38, -, S38, -, Hs38, -⟩ := V37
  have hin38 : ¬ ((3 : Int32) < 0 ∨ cl38.slots.size ≤ ((3 : Int32)).toNatClampNeg) := inb_of S38 ⟨by decide, by decide⟩
  have hat38 : cl38.slots[((3 : Int32)).toNatClampNeg]? = some (.ref w_OFF_PEAK_ENERGY) := Hs38.at hin38 rfl
  obtain ⟨cq39, kq39, q39a, q39b, q39c⟩ := isOf hZ e37 (pr8.ext OL37.2)
  obtain ⟨_, _, ⟨T39, L39, k39, n39⟩, -, X39, ⟨Lc39, hQ39, l39, y39, z39⟩, st39⟩ := X37.virtualBack hx (y := (⟨"com/example/tarcal/tarcal/schedules/Basis", "perPeriod", "()Z"⟩ : MethodName)) (z := (⟨"com/example/tarcal/tarcal/schedules/Basis", "perPeriod", "()Z"⟩ : MethodName)) hown (mvT hZ (wd29 hw)) (mvT hZ (wd30 hw)) (notFace_of_selects (args := #[]) (mvT hZ (wd32 hw))) (mvT hZ (wd32 hw)) (mvT hZ (wd31 hw)) (by decide) (backOf (W := 0) (rm1_0 l Z a0 hw [] w_OFF_PEAK_ENERGY w_HIGHEST_HOUR_ENERGY w_GAS_INDEXED_ENERGY w_POOL_PRICED_ENERGY h37 n0 OL37 pr15 pr26 pr17 pr27 pr19 pr28) hZ (wd33 hw) (wd3 hw) (by decide) (by decide)) q39a q39c (g := (mkF m 122 #[.val (.int p1), .val (.ref b1), .val (.int (3 : Int32)), .val (.ref w_OFF_PEAK_ENERGY), .val (.int (0 : Int32)), .unset] [(.ref w_OFF_PEAK_ENERGY)])) rfl (by rw [hml]; rfl) (Steps.refl _) (argsL := []) (rest := []) (lenOf pd_0 rfl) rfl (by show 2 * 0 + _ ≤ _; exact Nat.le_of_eq rfl) (hb hby at_122) (fun _ _ => ⟨rfl, e37, (by decide : 1 + 0 ≤ _), (by decide : 12 + 0 ≤ _)⟩)
  dsimp only [Pt.U, Pt.locs, Pt.cells, Pt.slots] at X39 l39 y39 z39 st39 hQ39
  subst l39 y39 z39
  obtain ⟨rfl, Nq39, ec39⟩ := hQ39
  have N39 := Fr.app N37 Nq39
  obtain ⟨fs, hr, hrun, hended, hW, hsame⟩ := X39.leave (v := some (.int (1 : Int32))) (fun h => by rw [Bd.returns] at h; cases h)
  refine ⟨_, _, pre0 _ ?_, hrun, hended, _, _, rfl, ?_, ⟨_, rfl⟩, hW, hsame.mono (by decide) (by decide)⟩
  · show Steps p.tables e below (s₁.setTop (mkF m 0 #[.val (.int p1), .unset, .unset, .unset, .unset, .unset] [])) _
    refine XS.bipush X0.here hx rfl (hb hby at_0) ?_
    show Steps p.tables e below (s₁.setTop (mkF m 2 #[.val (.int p1), .unset, .unset, .unset, .unset, .unset] [(.int (12 : Int32))])) _
    refine st1 _ ?_
    show Steps p.tables e below (T1.setTop (mkF m 5 #[.val (.int p1), .unset, .unset, .unset, .unset, .unset] [(.ref b1)])) _
    refine XS.dup X1.here hx rfl (hb hby at_5) rfl rfl ?_
    show Steps p.tables e below (T1.setTop (mkF m 6 #[.val (.int p1), .unset, .unset, .unset, .unset, .unset] [(.ref b1), (.ref b1)])) _
    refine XS.iconst X1.here hx rfl (hb hby at_6) ?_
    show Steps p.tables e below (T1.setTop (mkF m 7 #[.val (.int p1), .unset, .unset, .unset, .unset, .unset] [(.int (0 : Int32)), (.ref b1), (.ref b1)])) _
    refine st2 _ ?_
    show Steps p.tables e below (T2.setTop (mkF m 10 #[.val (.int p1), .unset, .unset, .unset, .unset, .unset] [(.ref w_DAYS), (.int (0 : Int32)), (.ref b1), (.ref b1)])) _
    refine st4 _ ?_
    show Steps p.tables e below (T4.setTop (mkF m 11 #[.val (.int p1), .unset, .unset, .unset, .unset, .unset] [(.ref b1)])) _
    refine XS.dup X4.here hx rfl (hb hby at_11) rfl rfl ?_
    show Steps p.tables e below (T4.setTop (mkF m 12 #[.val (.int p1), .unset, .unset, .unset, .unset, .unset] [(.ref b1), (.ref b1)])) _
    refine XS.iconst X4.here hx rfl (hb hby at_12) ?_
    show Steps p.tables e below (T4.setTop (mkF m 13 #[.val (.int p1), .unset, .unset, .unset, .unset, .unset] [(.int (1 : Int32)), (.ref b1), (.ref b1)])) _
    refine st5 _ ?_
    show Steps p.tables e below (T5.setTop (mkF m 16 #[.val (.int p1), .unset, .unset, .unset, .unset, .unset] [(.ref w_ENERGY), (.int (1 : Int32)), (.ref b1), (.ref b1)])) _
    refine st7 _ ?_
    show Steps p.tables e below (T7.setTop (mkF m 17 #[.val (.int p1), .unset, .unset, .unset, .unset, .unset] [(.ref b1)])) _
    refine XS.dup X7.here hx rfl (hb hby at_17) rfl rfl ?_
    show Steps p.tables e below (T7.setTop (mkF m 18 #[.val (.int p1), .unset, .unset, .unset, .unset, .unset] [(.ref b1), (.ref b1)])) _
    refine XS.iconst X7.here hx rfl (hb hby at_18) ?_
    show Steps p.tables e below (T7.setTop (mkF m 19 #[.val (.int p1), .unset, .unset, .unset, .unset, .unset] [(.int (2 : Int32)), (.ref b1), (.ref b1)])) _
    refine st8 _ ?_
    show Steps p.tables e below (T8.setTop (mkF m 22 #[.val (.int p1), .unset, .unset, .unset, .unset, .unset] [(.ref w_ON_PEAK_ENERGY), (.int (2 : Int32)), (.ref b1), (.ref b1)])) _
    refine st10 _ ?_
    show Steps p.tables e below (T10.setTop (mkF m 23 #[.val (.int p1), .unset, .unset, .unset, .unset, .unset] [(.ref b1)])) _
    refine XS.dup X10.here hx rfl (hb hby at_23) rfl rfl ?_
    show Steps p.tables e below (T10.setTop (mkF m 24 #[.val (.int p1), .unset, .unset, .unset, .unset, .unset] [(.ref b1), (.ref b1)])) _
    refine XS.iconst X10.here hx rfl (hb hby at_24) ?_
    show Steps p.tables e below (T10.setTop (mkF m 25 #[.val (.int p1), .unset, .unset, .unset, .unset, .unset] [(.int (3 : Int32)), (.ref b1), (.ref b1)])) _
    refine st11 _ ?_
    show Steps p.tables e below (T11.setTop (mkF m 28 #[.val (.int p1), .unset, .unset, .unset, .unset, .unset] [(.ref w_OFF_PEAK_ENERGY), (.int (3 : Int32)), (.ref b1), (.ref b1)])) _
    refine st13 _ ?_
    show Steps p.tables e below (T13.setTop (mkF m 29 #[.val (.int p1), .unset, .unset, .unset, .unset, .unset] [(.ref b1)])) _
    refine XS.dup X13.here hx rfl (hb hby at_29) rfl rfl ?_
    show Steps p.tables e below (T13.setTop (mkF m 30 #[.val (.int p1), .unset, .unset, .unset, .unset, .unset] [(.ref b1), (.ref b1)])) _
    refine XS.iconst X13.here hx rfl (hb hby at_30) ?_
    show Steps p.tables e below (T13.setTop (mkF m 31 #[.val (.int p1), .unset, .unset, .unset, .unset, .unset] [(.int (4 : Int32)), (.ref b1), (.ref b1)])) _
    refine st14 _ ?_
    show Steps p.tables e below (T14.setTop (mkF m 34 #[.val (.int p1), .unset, .unset, .unset, .unset, .unset] [(.ref w_BILLING_DEMAND_DAYS), (.int (4 : Int32)), (.ref b1), (.ref b1)])) _
    refine st16 _ ?_
    show Steps p.tables e below (T16.setTop (mkF m 35 #[.val (.int p1), .unset, .unset, .unset, .unset, .unset] [(.ref b1)])) _
    refine XS.dup X16.here hx rfl (hb hby at_35) rfl rfl ?_
    show Steps p.tables e below (T16.setTop (mkF m 36 #[.val (.int p1), .unset, .unset, .unset, .unset, .unset] [(.ref b1), (.ref b1)])) _
    refine XS.iconst X16.here hx rfl (hb hby at_36) ?_
    show Steps p.tables e below (T16.setTop (mkF m 37 #[.val (.int p1), .unset, .unset, .unset, .unset, .unset] [(.int (5 : Int32)), (.ref b1), (.ref b1)])) _
    refine st17 _ ?_
    show Steps p.tables e below (T17.setTop (mkF m 40 #[.val (.int p1), .unset, .unset, .unset, .unset, .unset] [(.ref w_METERED_DEMAND_DAYS), (.int (5 : Int32)), (.ref b1), (.ref b1)])) _
    refine st19 _ ?_
    show Steps p.tables e below (T19.setTop (mkF m 41 #[.val (.int p1), .unset, .unset, .unset, .unset, .unset] [(.ref b1)])) _
    refine XS.dup X19.here hx rfl (hb hby at_41) rfl rfl ?_
    show Steps p.tables e below (T19.setTop (mkF m 42 #[.val (.int p1), .unset, .unset, .unset, .unset, .unset] [(.ref b1), (.ref b1)])) _
    refine XS.bipush X19.here hx rfl (hb hby at_42) ?_
    show Steps p.tables e below (T19.setTop (mkF m 44 #[.val (.int p1), .unset, .unset, .unset, .unset, .unset] [(.int (6 : Int32)), (.ref b1), (.ref b1)])) _
    refine st20 _ ?_
    show Steps p.tables e below (T20.setTop (mkF m 47 #[.val (.int p1), .unset, .unset, .unset, .unset, .unset] [(.ref w_FIXTURE_DAYS), (.int (6 : Int32)), (.ref b1), (.ref b1)])) _
    refine st22 _ ?_
    show Steps p.tables e below (T22.setTop (mkF m 48 #[.val (.int p1), .unset, .unset, .unset, .unset, .unset] [(.ref b1)])) _
    refine XS.dup X22.here hx rfl (hb hby at_48) rfl rfl ?_
    show Steps p.tables e below (T22.setTop (mkF m 49 #[.val (.int p1), .unset, .unset, .unset, .unset, .unset] [(.ref b1), (.ref b1)])) _
    refine XS.bipush X22.here hx rfl (hb hby at_49) ?_
    show Steps p.tables e below (T22.setTop (mkF m 51 #[.val (.int p1), .unset, .unset, .unset, .unset, .unset] [(.int (7 : Int32)), (.ref b1), (.ref b1)])) _
    refine st23 _ ?_
    show Steps p.tables e below (T23.setTop (mkF m 54 #[.val (.int p1), .unset, .unset, .unset, .unset, .unset] [(.ref w_HIGHEST_HOUR_ENERGY), (.int (7 : Int32)), (.ref b1), (.ref b1)])) _
    refine st25 _ ?_
    show Steps p.tables e below (T25.setTop (mkF m 55 #[.val (.int p1), .unset, .unset, .unset, .unset, .unset] [(.ref b1)])) _
    refine XS.dup X25.here hx rfl (hb hby at_55) rfl rfl ?_
    show Steps p.tables e below (T25.setTop (mkF m 56 #[.val (.int p1), .unset, .unset, .unset, .unset, .unset] [(.ref b1), (.ref b1)])) _
    refine XS.bipush X25.here hx rfl (hb hby at_56) ?_
    show Steps p.tables e below (T25.setTop (mkF m 58 #[.val (.int p1), .unset, .unset, .unset, .unset, .unset] [(.int (8 : Int32)), (.ref b1), (.ref b1)])) _
    refine st26 _ ?_
    show Steps p.tables e below (T26.setTop (mkF m 61 #[.val (.int p1), .unset, .unset, .unset, .unset, .unset] [(.ref w_GAS_INDEXED_ENERGY), (.int (8 : Int32)), (.ref b1), (.ref b1)])) _
    refine st28 _ ?_
    show Steps p.tables e below (T28.setTop (mkF m 62 #[.val (.int p1), .unset, .unset, .unset, .unset, .unset] [(.ref b1)])) _
    refine XS.dup X28.here hx rfl (hb hby at_62) rfl rfl ?_
    show Steps p.tables e below (T28.setTop (mkF m 63 #[.val (.int p1), .unset, .unset, .unset, .unset, .unset] [(.ref b1), (.ref b1)])) _
    refine XS.bipush X28.here hx rfl (hb hby at_63) ?_
    show Steps p.tables e below (T28.setTop (mkF m 65 #[.val (.int p1), .unset, .unset, .unset, .unset, .unset] [(.int (9 : Int32)), (.ref b1), (.ref b1)])) _
    refine st29 _ ?_
    show Steps p.tables e below (T29.setTop (mkF m 68 #[.val (.int p1), .unset, .unset, .unset, .unset, .unset] [(.ref w_POOL_PRICED_ENERGY), (.int (9 : Int32)), (.ref b1), (.ref b1)])) _
    refine st31 _ ?_
    show Steps p.tables e below (T31.setTop (mkF m 69 #[.val (.int p1), .unset, .unset, .unset, .unset, .unset] [(.ref b1)])) _
    refine XS.dup X31.here hx rfl (hb hby at_69) rfl rfl ?_
    show Steps p.tables e below (T31.setTop (mkF m 70 #[.val (.int p1), .unset, .unset, .unset, .unset, .unset] [(.ref b1), (.ref b1)])) _
    refine XS.bipush X31.here hx rfl (hb hby at_70) ?_
    show Steps p.tables e below (T31.setTop (mkF m 72 #[.val (.int p1), .unset, .unset, .unset, .unset, .unset] [(.int (10 : Int32)), (.ref b1), (.ref b1)])) _
    refine st32 _ ?_
    show Steps p.tables e below (T32.setTop (mkF m 75 #[.val (.int p1), .unset, .unset, .unset, .unset, .unset] [(.ref w_ISO_COSTS), (.int (10 : Int32)), (.ref b1), (.ref b1)])) _
    refine st34 _ ?_
    show Steps p.tables e below (T34.setTop (mkF m 76 #[.val (.int p1), .unset, .unset, .unset, .unset, .unset] [(.ref b1)])) _
    refine XS.dup X34.here hx rfl (hb hby at_76) rfl rfl ?_
    show Steps p.tables e below (T34.setTop (mkF m 77 #[.val (.int p1), .unset, .unset, .unset, .unset, .unset] [(.ref b1), (.ref b1)])) _
    refine XS.bipush X34.here hx rfl (hb hby at_77) ?_
    show Steps p.tables e below (T34.setTop (mkF m 79 #[.val (.int p1), .unset, .unset, .unset, .unset, .unset] [(.int (11 : Int32)), (.ref b1), (.ref b1)])) _
    refine st35 _ ?_
    show Steps p.tables e below (T35.setTop (mkF m 82 #[.val (.int p1), .unset, .unset, .unset, .unset, .unset] [(.ref w_DISTRIBUTION_ACCESS_CHARGES), (.int (11 : Int32)), (.ref b1), (.ref b1)])) _
    refine st37 _ ?_
    show Steps p.tables e below (T37.setTop (mkF m 83 #[.val (.int p1), .unset, .unset, .unset, .unset, .unset] [(.ref b1)])) _
    refine XS.astoreN X37.here hx rfl (hb hby at_83) rfl rfl (l' := #[.val (.int p1), .val (.ref b1), .unset, .unset, .unset, .unset]) rfl ?_
    show Steps p.tables e below (T37.setTop (mkF m 84 #[.val (.int p1), .val (.ref b1), .unset, .unset, .unset, .unset] [])) _
    refine XS.iloadN X37.here hx rfl (hb hby at_84) rfl ?_
    show Steps p.tables e below (T37.setTop (mkF m 85 #[.val (.int p1), .val (.ref b1), .unset, .unset, .unset, .unset] [(.int p1)])) _
    refine X37.ldcInt hx hown (mvT hZ (wd28 hw)) (g := (mkF m 85 #[.val (.int p1), .val (.ref b1), .unset, .unset, .unset, .unset] [(.int p1)])) rfl (hb hby at_85) _ ?_
    show Steps p.tables e below (T37.setTop (mkF m 87 #[.val (.int p1), .val (.ref b1), .unset, .unset, .unset, .unset] [(.int (2147483647 : Int32)), (.int p1)])) _
    refine XS.iand X37.here hx rfl (hb hby at_87) rfl ?_
    show Steps p.tables e below (T37.setTop (mkF m 88 #[.val (.int p1), .val (.ref b1), .unset, .unset, .unset, .unset] [(.int (p1 &&& (2147483647 : Int32)))])) _
    refine XS.bipush X37.here hx rfl (hb hby at_88) ?_
    show Steps p.tables e below (T37.setTop (mkF m 90 #[.val (.int p1), .val (.ref b1), .unset, .unset, .unset, .unset] [(.int (12 : Int32)), (.int (p1 &&& (2147483647 : Int32)))])) _
    refine iremM X37 hx rfl (hb hby at_90) rfl (by decide) ?_
    show Steps p.tables e below (T37.setTop (mkF m 91 #[.val (.int p1), .val (.ref b1), .unset, .unset, .unset, .unset] [(.int ((p1 &&& (2147483647 : Int32)) % (12 : Int32)))])) _
    rw [pr25]
    show Steps p.tables e below (T37.setTop (mkF m 91 #[.val (.int p1), .val (.ref b1), .unset, .unset, .unset, .unset] [(.int (3 : Int32))])) _
    refine XS.istoreN X37.here hx rfl (hb hby at_91) rfl (l' := #[.val (.int p1), .val (.ref b1), .val (.int (3 : Int32)), .unset, .unset, .unset]) rfl ?_
    show Steps p.tables e below (T37.setTop (mkF m 92 #[.val (.int p1), .val (.ref b1), .val (.int (3 : Int32)), .unset, .unset, .unset] [])) _
    refine XS.aloadN X37.here hx rfl (hb hby at_92) rfl rfl ?_
    show Steps p.tables e below (T37.setTop (mkF m 93 #[.val (.int p1), .val (.ref b1), .val (.int (3 : Int32)), .unset, .unset, .unset] [(.ref b1)])) _
    refine XS.iloadN X37.here hx rfl (hb hby at_93) rfl ?_
    show Steps p.tables e below (T37.setTop (mkF m 94 #[.val (.int p1), .val (.ref b1), .val (.int (3 : Int32)), .unset, .unset, .unset] [(.int (3 : Int32)), (.ref b1)])) _
    refine X37.aaload hx (j := (3 : Int32)) (v := (.ref w_OFF_PEAK_ENERGY)) (by rw [e37]; exact Ar38.1) (State.isArrayOf_alike hZ.alike Ar38.2.1) rfl Ar38.2.2 hin38 hat38 (g := (mkF m 94 #[.val (.int p1), .val (.ref b1), .val (.int (3 : Int32)), .unset, .unset, .unset] [(.int (3 : Int32)), (.ref b1)])) rfl rfl (hb hby at_94) _ ?_
    show Steps p.tables e below (T37.setTop (mkF m 95 #[.val (.int p1), .val (.ref b1), .val (.int (3 : Int32)), .unset, .unset, .unset] [(.ref w_OFF_PEAK_ENERGY)])) _
    refine XS.astoreN X37.here hx rfl (hb hby at_95) rfl rfl (l' := #[.val (.int p1), .val (.ref b1), .val (.int (3 : Int32)), .val (.ref w_OFF_PEAK_ENERGY), .unset, .unset]) rfl ?_
    show Steps p.tables e below (T37.setTop (mkF m 96 #[.val (.int p1), .val (.ref b1), .val (.int (3 : Int32)), .val (.ref w_OFF_PEAK_ENERGY), .unset, .unset] [])) _
    refine XS.iloadN X37.here hx rfl (hb hby at_96) rfl ?_
    show Steps p.tables e below (T37.setTop (mkF m 97 #[.val (.int p1), .val (.ref b1), .val (.int (3 : Int32)), .val (.ref w_OFF_PEAK_ENERGY), .unset, .unset] [(.int (3 : Int32))])) _
    refine XS.bipush X37.here hx rfl (hb hby at_97) ?_
    show Steps p.tables e below (T37.setTop (mkF m 99 #[.val (.int p1), .val (.ref b1), .val (.int (3 : Int32)), .val (.ref w_OFF_PEAK_ENERGY), .unset, .unset] [(.int (7 : Int32)), (.int (3 : Int32))])) _
    refine XS.icmpNo X37.here hx rfl (hb hby at_99) rfl (feq (by decide : ¬ ((3 : Int32) = (7 : Int32)))).1 ?_
    show Steps p.tables e below (T37.setTop (mkF m 102 #[.val (.int p1), .val (.ref b1), .val (.int (3 : Int32)), .val (.ref w_OFF_PEAK_ENERGY), .unset, .unset] [])) _
    refine XS.iloadN X37.here hx rfl (hb hby at_102) rfl ?_
    show Steps p.tables e below (T37.setTop (mkF m 103 #[.val (.int p1), .val (.ref b1), .val (.int (3 : Int32)), .val (.ref w_OFF_PEAK_ENERGY), .unset, .unset] [(.int (3 : Int32))])) _
    refine XS.bipush X37.here hx rfl (hb hby at_103) ?_
    show Steps p.tables e below (T37.setTop (mkF m 105 #[.val (.int p1), .val (.ref b1), .val (.int (3 : Int32)), .val (.ref w_OFF_PEAK_ENERGY), .unset, .unset] [(.int (8 : Int32)), (.int (3 : Int32))])) _
    refine XS.icmpNo X37.here hx rfl (hb hby at_105) rfl (feq (by decide : ¬ ((3 : Int32) = (8 : Int32)))).1 ?_
    show Steps p.tables e below (T37.setTop (mkF m 108 #[.val (.int p1), .val (.ref b1), .val (.int (3 : Int32)), .val (.ref w_OFF_PEAK_ENERGY), .unset, .unset] [])) _
    refine XS.iloadN X37.here hx rfl (hb hby at_108) rfl ?_
    show Steps p.tables e below (T37.setTop (mkF m 109 #[.val (.int p1), .val (.ref b1), .val (.int (3 : Int32)), .val (.ref w_OFF_PEAK_ENERGY), .unset, .unset] [(.int (3 : Int32))])) _
    refine XS.bipush X37.here hx rfl (hb hby at_109) ?_
    show Steps p.tables e below (T37.setTop (mkF m 111 #[.val (.int p1), .val (.ref b1), .val (.int (3 : Int32)), .val (.ref w_OFF_PEAK_ENERGY), .unset, .unset] [(.int (9 : Int32)), (.int (3 : Int32))])) _
    refine XS.icmpYes X37.here hx rfl (pc0 := 111) (pc' := 118) rfl (hb hby at_111) rfl (feq (by decide : ¬ ((3 : Int32) = (9 : Int32)))).2 (by decide) (by decide) ?_
    show Steps p.tables e below (T37.setTop (mkF m 118 #[.val (.int p1), .val (.ref b1), .val (.int (3 : Int32)), .val (.ref w_OFF_PEAK_ENERGY), .unset, .unset] [])) _
    refine XS.iconst X37.here hx rfl (hb hby at_118) ?_
    show Steps p.tables e below (T37.setTop (mkF m 119 #[.val (.int p1), .val (.ref b1), .val (.int (3 : Int32)), .val (.ref w_OFF_PEAK_ENERGY), .unset, .unset] [(.int (0 : Int32))])) _
    refine XS.istore X37.here hx rfl (hb hby at_119) rfl (l' := #[.val (.int p1), .val (.ref b1), .val (.int (3 : Int32)), .val (.ref w_OFF_PEAK_ENERGY), .val (.int (0 : Int32)), .unset]) rfl ?_
    show Steps p.tables e below (T37.setTop (mkF m 121 #[.val (.int p1), .val (.ref b1), .val (.int (3 : Int32)), .val (.ref w_OFF_PEAK_ENERGY), .val (.int (0 : Int32)), .unset] [])) _
    refine XS.aloadN X37.here hx rfl (hb hby at_121) rfl rfl ?_
    show Steps p.tables e below (T37.setTop (mkF m 122 #[.val (.int p1), .val (.ref b1), .val (.int (3 : Int32)), .val (.ref w_OFF_PEAK_ENERGY), .val (.int (0 : Int32)), .unset] [(.ref w_OFF_PEAK_ENERGY)])) _
    refine st39.trans ?_
    show Steps p.tables e below (T39.setTop (mkF m 125 #[.val (.int p1), .val (.ref b1), .val (.int (3 : Int32)), .val (.ref w_OFF_PEAK_ENERGY), .val (.int (0 : Int32)), .unset] [(.int (0 : Int32))])) _
    refine XS.istore X39.here hx rfl (hb hby at_125) rfl (l' := #[.val (.int p1), .val (.ref b1), .val (.int (3 : Int32)), .val (.ref w_OFF_PEAK_ENERGY), .val (.int (0 : Int32)), .val (.int (0 : Int32))]) rfl ?_
    show Steps p.tables e below (T39.setTop (mkF m 127 #[.val (.int p1), .val (.ref b1), .val (.int (3 : Int32)), .val (.ref w_OFF_PEAK_ENERGY), .val (.int (0 : Int32)), .val (.int (0 : Int32))] [])) _
    refine XS.iload X39.here hx rfl (hb hby at_127) rfl ?_
    show Steps p.tables e below (T39.setTop (mkF m 129 #[.val (.int p1), .val (.ref b1), .val (.int (3 : Int32)), .val (.ref w_OFF_PEAK_ENERGY), .val (.int (0 : Int32)), .val (.int (0 : Int32))] [(.int (0 : Int32))])) _
    refine XS.iload X39.here hx rfl (hb hby at_129) rfl ?_
    show Steps p.tables e below (T39.setTop (mkF m 131 #[.val (.int p1), .val (.ref b1), .val (.int (3 : Int32)), .val (.ref w_OFF_PEAK_ENERGY), .val (.int (0 : Int32)), .val (.int (0 : Int32))] [(.int (0 : Int32)), (.int (0 : Int32))])) _
    refine XS.icmpYes X39.here hx rfl (pc0 := 131) (pc' := 136) rfl (hb hby at_131) rfl (teq (rfl : (0 : Int32) = (0 : Int32))).1 (by decide) (by decide) ?_
    show Steps p.tables e below (T39.setTop (mkF m 136 #[.val (.int p1), .val (.ref b1), .val (.int (3 : Int32)), .val (.ref w_OFF_PEAK_ENERGY), .val (.int (0 : Int32)), .val (.int (0 : Int32))] [])) _
    refine XS.iload X39.here hx rfl (hb hby at_136) rfl ?_
    show Steps p.tables e below (T39.setTop (mkF m 138 #[.val (.int p1), .val (.ref b1), .val (.int (3 : Int32)), .val (.ref w_OFF_PEAK_ENERGY), .val (.int (0 : Int32)), .val (.int (0 : Int32))] [(.int (0 : Int32))])) _
    refine XS.ifYes X39.here hx rfl (pc0 := 138) (pc' := 164) rfl (hb hby at_138) rfl ((if0 _ _).trans (teq (rfl : (0 : Int32) = (0 : Int32))).1) (by decide) (by decide) ?_
    show Steps p.tables e below (T39.setTop (mkF m 164 #[.val (.int p1), .val (.ref b1), .val (.int (3 : Int32)), .val (.ref w_OFF_PEAK_ENERGY), .val (.int (0 : Int32)), .val (.int (0 : Int32))] [])) _
    refine XS.iconst X39.here hx rfl (hb hby at_164) ?_
    show Steps p.tables e below (T39.setTop (mkF m 165 #[.val (.int p1), .val (.ref b1), .val (.int (3 : Int32)), .val (.ref w_OFF_PEAK_ENERGY), .val (.int (0 : Int32)), .val (.int (0 : Int32))] [(.int (1 : Int32))])) _
    exact retN X39 hx (t := .boolean) Bd.returns (by simp) (hb hby at_165) hr
  · exact ⟨rfl, N39⟩
set_option maxRecDepth 65536 in
set_option maxHeartbeats 40000000 in
theorem rm0_4 (l : Launch) (Z : State) (a0 : Array Value) (hw : ∀ d ∈ tables_1, d.before a0 Z = true) (ws : List Jvm.Cond) (p1 : Int32) (w_DAYS : Addr) (w_ENERGY : Addr) (w_ON_PEAK_ENERGY : Addr) (w_OFF_PEAK_ENERGY : Addr) (w_BILLING_DEMAND_DAYS : Addr) (w_METERED_DEMAND_DAYS : Addr) (w_FIXTURE_DAYS : Addr) (w_HIGHEST_HOUR_ENERGY : Addr) (w_GAS_INDEXED_ENERGY : Addr) (w_POOL_PRICED_ENERGY : Addr) (w_ISO_COSTS : Addr) (w_DISTRIBUTION_ACCESS_CHARGES : Addr) (h0 : Heap) (n0 : Nat) (OL0 : Old Z n0 h0) (pr1 : Sta Z Z.heap "com/example/tarcal/tarcal/schedules/Basis" "DAYS" "Lcom/example/tarcal/tarcal/schedules/Basis;" (.ref w_DAYS)) (pr2 : Exa Z Z.heap w_DAYS "com/example/tarcal/tarcal/schedules/Basis") (pr3 : Sta Z Z.heap "com/example/tarcal/tarcal/schedules/Basis" "ENERGY" "Lcom/example/tarcal/tarcal/schedules/Basis;" (.ref w_ENERGY)) (pr4 : Exa Z Z.heap w_ENERGY "com/example/tarcal/tarcal/schedules/Basis") (pr5 : Sta Z Z.heap "com/example/tarcal/tarcal/schedules/Basis" "ON_PEAK_ENERGY" "Lcom/example/tarcal/tarcal/schedules/Basis;" (.ref w_ON_PEAK_ENERGY)) (pr6 : Exa Z Z.heap w_ON_PEAK_ENERGY "com/example/tarcal/tarcal/schedules/Basis") (pr7 : Sta Z Z.heap "com/example/tarcal/tarcal/schedules/Basis" "OFF_PEAK_ENERGY" "Lcom/example/tarcal/tarcal/schedules/Basis;" (.ref w_OFF_PEAK_ENERGY)) (pr8 : Exa Z Z.heap w_OFF_PEAK_ENERGY "com/example/tarcal/tarcal/schedules/Basis") (pr9 : Sta Z Z.heap "com/example/tarcal/tarcal/schedules/Basis" "BILLING_DEMAND_DAYS" "Lcom/example/tarcal/tarcal/schedules/Basis;" (.ref w_BILLING_DEMAND_DAYS)) (pr10 : Exa Z Z.heap w_BILLING_DEMAND_DAYS "com/example/tarcal/tarcal/schedules/Basis") (pr11 : Sta Z Z.heap "com/example/tarcal/tarcal/schedules/Basis" "METERED_DEMAND_DAYS" "Lcom/example/tarcal/tarcal/schedules/Basis;" (.ref w_METERED_DEMAND_DAYS)) (pr12 : Exa Z Z.heap w_METERED_DEMAND_DAYS "com/example/tarcal/tarcal/schedules/Basis") (pr13 : Sta Z Z.heap "com/example/tarcal/tarcal/schedules/Basis" "FIXTURE_DAYS" "Lcom/example/tarcal/tarcal/schedules/Basis;" (.ref w_FIXTURE_DAYS)) (pr14 : Exa Z Z.heap w_FIXTURE_DAYS "com/example/tarcal/tarcal/schedules/Basis") (pr15 : Sta Z Z.heap "com/example/tarcal/tarcal/schedules/Basis" "HIGHEST_HOUR_ENERGY" "Lcom/example/tarcal/tarcal/schedules/Basis;" (.ref w_HIGHEST_HOUR_ENERGY)) (pr16 : Exa Z Z.heap w_HIGHEST_HOUR_ENERGY "com/example/tarcal/tarcal/schedules/Basis") (pr17 : Sta Z Z.heap "com/example/tarcal/tarcal/schedules/Basis" "GAS_INDEXED_ENERGY" "Lcom/example/tarcal/tarcal/schedules/Basis;" (.ref w_GAS_INDEXED_ENERGY)) (pr18 : Exa Z Z.heap w_GAS_INDEXED_ENERGY "com/example/tarcal/tarcal/schedules/Basis") (pr19 : Sta Z Z.heap "com/example/tarcal/tarcal/schedules/Basis" "POOL_PRICED_ENERGY" "Lcom/example/tarcal/tarcal/schedules/Basis;" (.ref w_POOL_PRICED_ENERGY)) (pr20 : Exa Z Z.heap w_POOL_PRICED_ENERGY "com/example/tarcal/tarcal/schedules/Basis") (pr21 : Sta Z Z.heap "com/example/tarcal/tarcal/schedules/Basis" "ISO_COSTS" "Lcom/example/tarcal/tarcal/schedules/Basis;" (.ref w_ISO_COSTS)) (pr22 : Exa Z Z.heap w_ISO_COSTS "com/example/tarcal/tarcal/schedules/Basis") (pr23 : Sta Z Z.heap "com/example/tarcal/tarcal/schedules/Basis" "DISTRIBUTION_ACCESS_CHARGES" "Lcom/example/tarcal/tarcal/schedules/Basis;" (.ref w_DISTRIBUTION_ACCESS_CHARGES)) (pr24 : Exa Z Z.heap w_DISTRIBUTION_ACCESS_CHARGES "com/example/tarcal/tarcal/schedules/Basis") (pr25 : ((p1 &&& (2147483647 : Int32)) % (12 : Int32)) = (4 : Int32)) (pr26 : w_BILLING_DEMAND_DAYS ≠ w_HIGHEST_HOUR_ENERGY) (pr27 : w_BILLING_DEMAND_DAYS ≠ w_GAS_INDEXED_ENERGY) (pr28 : w_BILLING_DEMAND_DAYS ≠ w_POOL_PRICED_ENERGY) :
    MetFree l x (head1 (Jvm.Cond.code x code maxLocals ret :: ws) room_1) (fun a U => a = #[(.int p1)] ∧ Z.Warmed39 U.vm ∧ U.heap = h0) (fun _ _ _ _ _ => True) (fun _ U o U' => ∃ v L, o = .returned v ∧ Q0 n0 v L ∧ FrameEnd U o U' L 16 128) := by
  refine MetFree.of_bodySF (plainFor_of_name pn_1) hisR ?_
  intro p e s m args below meth c s₁ Bd hml0 hP hK
  obtain ⟨rfl, hZ, hh⟩ := hP
  have hx := Bd.exec
  have hby := Bd.bytes
  have hml : c.maxLocals = 6 := hml0
  have hown : s.vm.findClass "com/example/tarcal/tarcal/schedules/BasisPerPeriodPinLaw" = some m.cls := findClass_of_methodNamed Bd.named
  have hnm := (name_of_methodNamed Bd.named Bd.method).1
  have X0 : Stand p l e room_1 s m #[(.int p1)] below meth c s₁ [] 0 0 := Stand.of_body Bd
  have e0 : s₁.heap = h0 := by rw [← hh, Bd.state]; rfl
  have N0 := Fr.nil n0
  have pre0 : ∀ t, Steps p.tables e below (s₁.setTop (mkF m 0 #[.val (.int p1), .unset, .unset, .unset, .unset, .unset] [])) t → Steps p.tables e below (s₁.setTop (entryFrame m #[(.int p1)] maxLocals)) t := fun t k => castTop (ef_0_1 m p1) k
  obtain ⟨T1, h1, k1, X1, e1, E1, A1, O1, st1⟩ := newR X0 hx hZ hown (wd0 hw) (wd1 hw) e0 (g := (mkF m 2 #[.val (.int p1), .unset, .unset, .unset, .unset, .unset] [(.int (12 : Int32))])) rfl (hb hby at_2) rfl (by decide) (cap := 12) (by decide) (by decide) (by decide) (by decide)
  obtain ⟨b1, g1⟩ : ∃ z, z = h0.size := ⟨_, rfl⟩
  rw [← g1] at A1 st1
  have V1 : Arv Z h1 b1 k1 (.object "com/example/tarcal/tarcal/schedules/Basis") (12 : Int32) [.null, .null, .null, .null, .null, .null, .null, .null, .null, .null, .null, .null] .null := (Arv.new A1 (by decide)).pad (pad_rep [] .null 12)
  have g_b1 : n0 ≤ b1 := (Nat.le_trans (Nat.le_trans (Nat.le_of_eq OL0.1.symm) OL0.2.1) (Nat.le_of_eq g1.symm))
  have sz_b1 : h0.size ≤ b1 := (Nat.le_trans (Keep.refl h0 []).1 (Nat.le_of_eq g1.symm))
  have KK1 : Keep h0 h1 [] := (Keep.refl h0 []).ext E1
  have OL1 := OL0.ext E1
  obtain ⟨T2, X2, e2, st2⟩ := getS2 X1 hx hZ hown (host := "") (Or.inl (wd2 hw)) Via.refl e1 (pr1.ext OL1.2) (g := (mkF m 7 #[.val (.int p1), .unset, .unset, .unset, .unset, .unset] [(.int (0 : Int32)), (.ref b1), (.ref b1)])) rfl (hb hby at_7)
  obtain ⟨cl3, Ar3, q3, S3, M3, Hs3, G3⟩ := V1
  have hin3 : ¬ ((0 : Int32) < 0 ∨ cl3.slots.size ≤ ((0 : Int32)).toNatClampNeg) := inb_of S3 ⟨by decide, by decide⟩
  obtain ⟨T4, h4, X4, e4, W4, st4⟩ := stR X2 hx hZ e2 Ar3 (j := (0 : Int32)) hin3 rfl (Sto.ofV Ar3 q3 O1 (Ins.self (pr2.ext OL1.2))) (g := (mkF m 10 #[.val (.int p1), .unset, .unset, .unset, .unset, .unset] [(.ref w_DAYS), (.int (0 : Int32)), (.ref b1), (.ref b1)])) rfl rfl (hb hby at_10)
  have V4 : Arv Z h4 b1 k1 (.object "com/example/tarcal/tarcal/schedules/Basis") (12 : Int32) [(.ref w_DAYS), .null, .null, .null, .null, .null, .null, .null, .null, .null, .null, .null] .null := Arv.set Ar3 q3 S3 M3 Hs3 G3 rfl W4 0 rfl (Nat.le_of_ble_eq_true rfl)
  have KK4 : Keep h0 h4 [] := KK1.wr W4 (Or.inr sz_b1)
  have OL4 := OL1.wr W4 g_b1
  have N4 := Fr.snoc X4 N0 g_b1
  obtain ⟨T5, X5, e5, st5⟩ := getS2 X4 hx hZ hown (host := "") (Or.inl (wd6 hw)) Via.refl e4 (pr3.ext OL4.2) (g := (mkF m 13 #[.val (.int p1), .unset, .unset, .unset, .unset, .unset] [(.int (1 : Int32)), (.ref b1), (.ref b1)])) rfl (hb hby at_13)
  obtain ⟨cl6, Ar6, q6, S6, M6, Hs6, G6⟩ := V4
  have hin6 : ¬ ((1 : Int32) < 0 ∨ cl6.slots.size ≤ ((1 : Int32)).toNatClampNeg) := inb_of S6 ⟨by decide, by decide⟩
  obtain ⟨T7, h7, X7, e7, W7, st7⟩ := stR X5 hx hZ e5 Ar6 (j := (1 : Int32)) hin6 rfl (Sto.ofV Ar6 q6 O1 (Ins.self (pr4.ext OL4.2))) (g := (mkF m 16 #[.val (.int p1), .unset, .unset, .unset, .unset, .unset] [(.ref w_ENERGY), (.int (1 : Int32)), (.ref b1), (.ref b1)])) rfl rfl (hb hby at_16)
  have V7 : Arv Z h7 b1 k1 (.object "com/example/tarcal/tarcal/schedules/Basis") (12 : Int32) [(.ref w_DAYS), (.ref w_ENERGY), .null, .null, .null, .null, .null, .null, .null, .null, .null, .null] .null := Arv.set Ar6 q6 S6 M6 Hs6 G6 rfl W7 1 rfl (Nat.le_of_ble_eq_true rfl)
  have KK7 : Keep h0 h7 [] := KK4.wr W7 (Or.inr sz_b1)
  have OL7 := OL4.wr W7 g_b1
  have N7 := Fr.snoc X7 N4 g_b1
  obtain ⟨T8, X8, e8, st8⟩ := getS2 X7 hx hZ hown (host := "") (Or.inl (wd8 hw)) Via.refl e7 (pr5.ext OL7.2) (g := (mkF m 19 #[.val (.int p1), .unset, .unset, .unset, .unset, .unset] [(.int (2 : Int32)), (.ref b1), (.ref b1)])) rfl (hb hby at_19)
  obtain ⟨cl9, Ar9, q9, S9, M9, Hs9, G9⟩ := V7
  have hin9 : ¬ ((2 : Int32) < 0 ∨ cl9.slots.size ≤ ((2 : Int32)).toNatClampNeg) := inb_of S9 ⟨by decide, by decide⟩
  obtain ⟨T10, h10, X10, e10, W10, st10⟩ := stR X8 hx hZ e8 Ar9 (j := (2 : Int32)) hin9 rfl (Sto.ofV Ar9 q9 O1 (Ins.self (pr6.ext OL7.2))) (g := (mkF m 22 #[.val (.int p1), .unset, .unset, .unset, .unset, .unset] [(.ref w_ON_PEAK_ENERGY), (.int (2 : Int32)), (.ref b1), (.ref b1)])) rfl rfl (hb hby at_22)
  have V10 : Arv Z h10 b1 k1 (.object "com/example/tarcal/tarcal/schedules/Basis") (12 : Int32) [(.ref w_DAYS), (.ref w_ENERGY), (.ref w_ON_PEAK_ENERGY), .null, .null, .null, .null, .null, .null, .null, .null, .null] .null := Arv.set Ar9 q9 S9 M9 Hs9 G9 rfl W10 2 rfl (Nat.le_of_ble_eq_true rfl)
  have KK10 : Keep h0 h10 [] := KK7.wr W10 (Or.inr sz_b1)
  have OL10 := OL7.wr W10 g_b1
  have N10 := Fr.snoc X10 N7 g_b1
  obtain ⟨T11, X11, e11, st11⟩ := getS2 X10 hx hZ hown (host := "") (Or.inl (wd10 hw)) Via.refl e10 (pr7.ext OL10.2) (g := (mkF m 25 #[.val (.int p1), .unset, .unset, .unset, .unset, .unset] [(.int (3 : Int32)), (.ref b1), (.ref b1)])) rfl (hb hby at_25)
  obtain ⟨cl12, Ar12, q12, S12, M12, Hs12, G12⟩ := V10
  have hin12 : ¬ ((3 : Int32) < 0 ∨ cl12.slots.size ≤ ((3 : Int32)).toNatClampNeg) := inb_of S12 ⟨by decide, by decide⟩
  obtain ⟨T13, h13, X13, e13, W13, st13⟩ := stR X11 hx hZ e11 Ar12 (j := (3 : Int32)) hin12 rfl (Sto.ofV Ar12 q12 O1 (Ins.self (pr8.ext OL10.2))) (g := (mkF m 28 #[.val (.int p1), .unset, .unset, .unset, .unset, .unset] [(.ref w_OFF_PEAK_ENERGY), (.int (3 : Int32)), (.ref b1), (.ref b1)])) rfl rfl (hb hby at_28)
  have V13 : Arv Z h13 b1 k1 (.object "com/example/tarcal/tarcal/schedules/Basis") (12 : Int32) [(.ref w_DAYS), (.ref w_ENERGY), (.ref w_ON_PEAK_ENERGY), (.ref w_OFF_PEAK_ENERGY), .null, .null, .null, .null, .null, .null, .null, .null] .null := Arv.set Ar12 q12 S12 M12 Hs12 G12 rfl W13 3 rfl (Nat.le_of_ble_eq_true rfl)
  have KK13 : Keep h0 h13 [] := KK10.wr W13 (Or.inr sz_b1)
  have OL13 := OL10.wr W13 g_b1
  have N13 := Fr.snoc X13 N10 g_b1
  obtain ⟨T14, X14, e14, st14⟩ := getS2 X13 hx hZ hown (host := "") (Or.inl (wd12 hw)) Via.refl e13 (pr9.ext OL13.2) (g := (mkF m 31 #[.val (.int p1), .unset, .unset, .unset, .unset, .unset] [(.int (4 : Int32)), (.ref b1), (.ref b1)])) rfl (hb hby at_31)
  obtain ⟨cl15, Ar15, q15, S15, M15, Hs15, G15⟩ := V13
  have hin15 : ¬ ((4 : Int32) < 0 ∨ cl15.slots.size ≤ ((4 : Int32)).toNatClampNeg) := inb_of S15 ⟨by decide, by decide⟩
  obtain ⟨T16, h16, X16, e16, W16, st16⟩ := stR X14 hx hZ e14 Ar15 (j := (4 : Int32)) hin15 rfl (Sto.ofV Ar15 q15 O1 (Ins.self (pr10.ext OL13.2))) (g := (mkF m 34 #[.val (.int p1), .unset, .unset, .unset, .unset, .unset] [(.ref w_BILLING_DEMAND_DAYS), (.int (4 : Int32)), (.ref b1), (.ref b1)])) rfl rfl (hb hby at_34)
  have V16 : Arv Z h16 b1 k1 (.object "com/example/tarcal/tarcal/schedules/Basis") (12 : Int32) [(.ref w_DAYS), (.ref w_ENERGY), (.ref w_ON_PEAK_ENERGY), (.ref w_OFF_PEAK_ENERGY), (.ref w_BILLING_DEMAND_DAYS), .null, .null, .null, .null, .null, .null, .null] .null := Arv.set Ar15 q15 S15 M15 Hs15 G15 rfl W16 4 rfl (Nat.le_of_ble_eq_true rfl)
  have KK16 : Keep h0 h16 [] := KK13.wr W16 (Or.inr sz_b1)
  have OL16 := OL13.wr W16 g_b1
  have N16 := Fr.snoc X16 N13 g_b1
  obtain ⟨T17, X17, e17, st17⟩ := getS2 X16 hx hZ hown (host := "") (Or.inl (wd14 hw)) Via.refl e16 (pr11.ext OL16.2) (g := (mkF m 37 #[.val (.int p1), .unset, .unset, .unset, .unset, .unset] [(.int (5 : Int32)), (.ref b1), (.ref b1)])) rfl (hb hby at_37)
  obtain ⟨cl18, Ar18, q18, S18, M18, Hs18, G18⟩ := V16
  have hin18 : ¬ ((5 : Int32) < 0 ∨ cl18.slots.size ≤ ((5 : Int32)).toNatClampNeg) := inb_of S18 ⟨by decide, by decide⟩
  obtain ⟨T19, h19, X19, e19, W19, st19⟩ := stR X17 hx hZ e17 Ar18 (j := (5 : Int32)) hin18 rfl (Sto.ofV Ar18 q18 O1 (Ins.self (pr12.ext OL16.2))) (g := (mkF m 40 #[.val (.int p1), .unset, .unset, .unset, .unset, .unset] [(.ref w_METERED_DEMAND_DAYS), (.int (5 : Int32)), (.ref b1), (.ref b1)])) rfl rfl (hb hby at_40)
  have V19 : Arv Z h19 b1 k1 (.object "com/example/tarcal/tarcal/schedules/Basis") (12 : Int32) [(.ref w_DAYS), (.ref w_ENERGY), (.ref w_ON_PEAK_ENERGY), (.ref w_OFF_PEAK_ENERGY), (.ref w_BILLING_DEMAND_DAYS), (.ref w_METERED_DEMAND_DAYS), .null, .null, .null, .null, .null, .null] .null := Arv.set Ar18 q18 S18 M18 Hs18 G18 rfl W19 5 rfl (Nat.le_of_ble_eq_true rfl)
  have KK19 : Keep h0 h19 [] := KK16.wr W19 (Or.inr sz_b1)
  have OL19 := OL16.wr W19 g_b1
  have N19 := Fr.snoc X19 N16 g_b1
  obtain ⟨T20, X20, e20, st20⟩ := getS2 X19 hx hZ hown (host := "") (Or.inl (wd16 hw)) Via.refl e19 (pr13.ext OL19.2) (g := (mkF m 44 #[.val (.int p1), .unset, .unset, .unset, .unset, .unset] [(.int (6 : Int32)), (.ref b1), (.ref b1)])) rfl (hb hby at_44)
  obtain ⟨cl21, Ar21, q21, S21, M21, Hs21, G21⟩ := V19
  have hin21 : ¬ ((6 : Int32) < 0 ∨ cl21.slots.size ≤ ((6 : Int32)).toNatClampNeg) := inb_of S21 ⟨by decide, by decide⟩
  obtain ⟨T22, h22, X22, e22, W22, st22⟩ := stR X20 hx hZ e20 Ar21 (j := (6 : Int32)) hin21 rfl (Sto.ofV Ar21 q21 O1 (Ins.self (pr14.ext OL19.2))) (g := (mkF m 47 #[.val (.int p1), .unset, .unset, .unset, .unset, .unset] [(.ref w_FIXTURE_DAYS), (.int (6 : Int32)), (.ref b1), (.ref b1)])) rfl rfl (hb hby at_47)
  have V22 : Arv Z h22 b1 k1 (.object "com/example/tarcal/tarcal/schedules/Basis") (12 : Int32) [(.ref w_DAYS), (.ref w_ENERGY), (.ref w_ON_PEAK_ENERGY), (.ref w_OFF_PEAK_ENERGY), (.ref w_BILLING_DEMAND_DAYS), (.ref w_METERED_DEMAND_DAYS), (.ref w_FIXTURE_DAYS), .null, .null, .null, .null, .null] .null := Arv.set Ar21 q21 S21 M21 Hs21 G21 rfl W22 6 rfl (Nat.le_of_ble_eq_true rfl)
  have KK22 : Keep h0 h22 [] := KK19.wr W22 (Or.inr sz_b1)
  have OL22 := OL19.wr W22 g_b1
  have N22 := Fr.snoc X22 N19 g_b1
  obtain ⟨T23, X23, e23, st23⟩ := getS2 X22 hx hZ hown (host := "") (Or.inl (wd18 hw)) Via.refl e22 (pr15.ext OL22.2) (g := (mkF m 51 #[.val (.int p1), .unset, .unset, .unset, .unset, .unset] [(.int (7 : Int32)), (.ref b1), (.ref b1)])) rfl (hb hby at_51)
  obtain ⟨cl24, Ar24, q24, S24, M24, Hs24, G24⟩ := V22
  have hin24 : ¬ ((7 : Int32) < 0 ∨ cl24.slots.size ≤ ((7 : Int32)).toNatClampNeg) := inb_of S24 ⟨by decide, by decide⟩
  obtain ⟨T25, h25, X25, e25, W25, st25⟩ := stR X23 hx hZ e23 Ar24 (j := (7 : Int32)) hin24 rfl (Sto.ofV Ar24 q24 O1 (Ins.self (pr16.ext OL22.2))) (g := (mkF m 54 #[.val (.int p1), .unset, .unset, .unset, .unset, .unset] [(.ref w_HIGHEST_HOUR_ENERGY), (.int (7 : Int32)), (.ref b1), (.ref b1)])) rfl rfl (hb hby at_54)
  have V25 : Arv Z h25 b1 k1 (.object "com/example/tarcal/tarcal/schedules/Basis") (12 : Int32) [(.ref w_DAYS), (.ref w_ENERGY), (.ref w_ON_PEAK_ENERGY), (.ref w_OFF_PEAK_ENERGY), (.ref w_BILLING_DEMAND_DAYS), (.ref w_METERED_DEMAND_DAYS), (.ref w_FIXTURE_DAYS), (.ref w_HIGHEST_HOUR_ENERGY), .null, .null, .null, .null] .null := Arv.set Ar24 q24 S24 M24 Hs24 G24 rfl W25 7 rfl (Nat.le_of_ble_eq_true rfl)
  have KK25 : Keep h0 h25 [] := KK22.wr W25 (Or.inr sz_b1)
  have OL25 := OL22.wr W25 g_b1
  have N25 := Fr.snoc X25 N22 g_b1
  obtain ⟨T26, X26, e26, st26⟩ := getS2 X25 hx hZ hown (host := "") (Or.inl (wd20 hw)) Via.refl e25 (pr17.ext OL25.2) (g := (mkF m 58 #[.val (.int p1), .unset, .unset, .unset, .unset, .unset] [(.int (8 : Int32)), (.ref b1), (.ref b1)])) rfl (hb hby at_58)
  obtain ⟨cl27, Ar27, q27, S27, M27, Hs27, G27⟩ := V25
  have hin27 : ¬ ((8 : Int32) < 0 ∨ cl27.slots.size ≤ ((8 : Int32)).toNatClampNeg) := inb_of S27 ⟨by decide, by decide⟩
  obtain ⟨T28, h28, X28, e28, W28, st28⟩ := stR X26 hx hZ e26 Ar27 (j := (8 : Int32)) hin27 rfl (Sto.ofV Ar27 q27 O1 (Ins.self (pr18.ext OL25.2))) (g := (mkF m 61 #[.val (.int p1), .unset, .unset, .unset, .unset, .unset] [(.ref w_GAS_INDEXED_ENERGY), (.int (8 : Int32)), (.ref b1), (.ref b1)])) rfl rfl (hb hby at_61)
  have V28 : Arv Z h28 b1 k1 (.object "com/example/tarcal/tarcal/schedules/Basis") (12 : Int32) [(.ref w_DAYS), (.ref w_ENERGY), (.ref w_ON_PEAK_ENERGY), (.ref w_OFF_PEAK_ENERGY), (.ref w_BILLING_DEMAND_DAYS), (.ref w_METERED_DEMAND_DAYS), (.ref w_FIXTURE_DAYS), (.ref w_HIGHEST_HOUR_ENERGY), (.ref w_GAS_INDEXED_ENERGY), .null, .null, .null] .null := Arv.set Ar27 q27 S27 M27 Hs27 G27 rfl W28 8 rfl (Nat.le_of_ble_eq_true rfl)
  have KK28 : Keep h0 h28 [] := KK25.wr W28 (Or.inr sz_b1)
  have OL28 := OL25.wr W28 g_b1
  have N28 := Fr.snoc X28 N25 g_b1
  obtain ⟨T29, X29, e29, st29⟩ := getS2 X28 hx hZ hown (host := "") (Or.inl (wd22 hw)) Via.refl e28 (pr19.ext OL28.2) (g := (mkF m 65 #[.val (.int p1), .unset, .unset, .unset, .unset, .unset] [(.int (9 : Int32)), (.ref b1), (.ref b1)])) rfl (hb hby at_65)
  obtain ⟨cl30, Ar30, q30, S30, M30, Hs30, G30⟩ := V28
  have hin30 : ¬ ((9 : Int32) < 0 ∨ cl30.slots.size ≤ ((9 : Int32)).toNatClampNeg) := inb_of S30 ⟨by decide, by decide⟩
  obtain ⟨T31, h31, X31, e31, W31, st31⟩ := stR X29 hx hZ e29 Ar30 (j := (9 : Int32)) hin30 rfl (Sto.ofV Ar30 q30 O1 (Ins.self (pr20.ext OL28.2))) (g := (mkF m 68 #[.val (.int p1), .unset, .unset, .unset, .unset, .unset] [(.ref w_POOL_PRICED_ENERGY), (.int (9 : Int32)), (.ref b1), (.ref b1)])) rfl rfl (hb hby at_68)
  have V31 : Arv Z h31 b1 k1 (.object "com/example/tarcal/tarcal/schedules/Basis") (12 : Int32) [(.ref w_DAYS), (.ref w_ENERGY), (.ref w_ON_PEAK_ENERGY), (.ref w_OFF_PEAK_ENERGY), (.ref w_BILLING_DEMAND_DAYS), (.ref w_METERED_DEMAND_DAYS), (.ref w_FIXTURE_DAYS), (.ref w_HIGHEST_HOUR_ENERGY), (.ref w_GAS_INDEXED_ENERGY), (.ref w_POOL_PRICED_ENERGY), .null, .null] .null := Arv.set Ar30 q30 S30 M30 Hs30 G30 rfl W31 9 rfl (Nat.le_of_ble_eq_true rfl)
  have KK31 : Keep h0 h31 [] := KK28.wr W31 (Or.inr sz_b1)
  have OL31 := OL28.wr W31 g_b1
  have N31 := Fr.snoc X31 N28 g_b1
  obtain ⟨T32, X32, e32, st32⟩ := getS2 X31 hx hZ hown (host := "") (Or.inl (wd24 hw)) Via.refl e31 (pr21.ext OL31.2) (g := (mkF m 72 #[.val (.int p1), .unset, .unset, .unset, .unset, .unset] [(.int (10 : Int32)), (.ref b1), (.ref b1)])) rfl (hb hby at_72)
  obtain ⟨cl33, Ar33, q33, S33, M33, Hs33, G33⟩ := V31
  have hin33 : ¬ ((10 : Int32) < 0 ∨ cl33.slots.size ≤ ((10 : Int32)).toNatClampNeg) := inb_of S33 ⟨by decide, by decide⟩
  obtain ⟨T34, h34, X34, e34, W34, st34⟩ := stR X32 hx hZ e32 Ar33 (j := (10 : Int32)) hin33 rfl (Sto.ofV Ar33 q33 O1 (Ins.self (pr22.ext OL31.2))) (g := (mkF m 75 #[.val (.int p1), .unset, .unset, .unset, .unset, .unset] [(.ref w_ISO_COSTS), (.int (10 : Int32)), (.ref b1), (.ref b1)])) rfl rfl (hb hby at_75)
  have V34 : Arv Z h34 b1 k1 (.object "com/example/tarcal/tarcal/schedules/Basis") (12 : Int32) [(.ref w_DAYS), (.ref w_ENERGY), (.ref w_ON_PEAK_ENERGY), (.ref w_OFF_PEAK_ENERGY), (.ref w_BILLING_DEMAND_DAYS), (.ref w_METERED_DEMAND_DAYS), (.ref w_FIXTURE_DAYS), (.ref w_HIGHEST_HOUR_ENERGY), (.ref w_GAS_INDEXED_ENERGY), (.ref w_POOL_PRICED_ENERGY), (.ref w_ISO_COSTS), .null] .null := Arv.set Ar33 q33 S33 M33 Hs33 G33 rfl W34 10 rfl (Nat.le_of_ble_eq_true rfl)
  have KK34 : Keep h0 h34 [] := KK31.wr W34 (Or.inr sz_b1)
  have OL34 := OL31.wr W34 g_b1
  have N34 := Fr.snoc X34 N31 g_b1
  obtain ⟨T35, X35, e35, st35⟩ := getS2 X34 hx hZ hown (host := "") (Or.inl (wd26 hw)) Via.refl e34 (pr23.ext OL34.2) (g := (mkF m 79 #[.val (.int p1), .unset, .unset, .unset, .unset, .unset] [(.int (11 : Int32)), (.ref b1), (.ref b1)])) rfl (hb hby at_79)
  obtain ⟨cl36, Ar36, q36, S36, M36, Hs36, G36⟩ := V34
  have hin36 : ¬ ((11 : Int32) < 0 ∨ cl36.slots.size ≤ ((11 : Int32)).toNatClampNeg) := inb_of S36 ⟨by decide, by decide⟩
  obtain ⟨T37, h37, X37, e37, W37, st37⟩ := stR X35 hx hZ e35 Ar36 (j := (11 : Int32)) hin36 rfl (Sto.ofV Ar36 q36 O1 (Ins.self (pr24.ext OL34.2))) (g := (mkF m 82 #[.val (.int p1), .unset, .unset, .unset, .unset, .unset] [(.ref w_DISTRIBUTION_ACCESS_CHARGES), (.int (11 : Int32)), (.ref b1), (.ref b1)])) rfl rfl (hb hby at_82)
  have V37 : Arv Z h37 b1 k1 (.object "com/example/tarcal/tarcal/schedules/Basis") (12 : Int32) [(.ref w_DAYS), (.ref w_ENERGY), (.ref w_ON_PEAK_ENERGY), (.ref w_OFF_PEAK_ENERGY), (.ref w_BILLING_DEMAND_DAYS), (.ref w_METERED_DEMAND_DAYS), (.ref w_FIXTURE_DAYS), (.ref w_HIGHEST_HOUR_ENERGY), (.ref w_GAS_INDEXED_ENERGY), (.ref w_POOL_PRICED_ENERGY), (.ref w_ISO_COSTS), (.ref w_DISTRIBUTION_ACCESS_CHARGES)] .null := Arv.set Ar36 q36 S36 M36 Hs36 G36 rfl W37 11 rfl (Nat.le_of_ble_eq_true rfl)
  have KK37 : Keep h0 h37 [] := KK34.wr W37 (Or.inr sz_b1)
  have OL37 := OL34.wr W37 g_b1
  have N37 := Fr.snoc X37 N34 g_b1
  obtain ⟨cl38, Ar38, -, S38, -, Hs38, -⟩ := V37
  have hin38 : ¬ ((4 : Int32) < 0 ∨ cl38.slots.size ≤ ((4 : Int32)).toNatClampNeg) := inb_of S38 ⟨by decide, by decide⟩
  have hat38 : cl38.slots[((4 : Int32)).toNatClampNeg]? = some (.ref w_BILLING_DEMAND_DAYS) := Hs38.at hin38 rfl
  obtain ⟨cq39, kq39, q39a, q39b, q39c⟩ := isOf hZ e37 (pr10.ext OL37.2)
  obtain ⟨_, _, ⟨T39, L39, k39, n39⟩, -, X39, ⟨Lc39, hQ39, l39, y39, z39⟩, st39⟩ := X37.virtualBack hx (y := (⟨"com/example/tarcal/tarcal/schedules/Basis", "perPeriod", "()Z"⟩ : MethodName)) (z := (⟨"com/example/tarcal/tarcal/schedules/Basis", "perPeriod", "()Z"⟩ : MethodName)) hown (mvT hZ (wd29 hw)) (mvT hZ (wd30 hw)) (notFace_of_selects (args := #[]) (mvT hZ (wd32 hw))) (mvT hZ (wd32 hw)) (mvT hZ (wd31 hw)) (by decide) (backOf (W := 0) (rm1_0 l Z a0 hw [] w_BILLING_DEMAND_DAYS w_HIGHEST_HOUR_ENERGY w_GAS_INDEXED_ENERGY w_POOL_PRICED_ENERGY h37 n0 OL37 pr15 pr26 pr17 pr27 pr19 pr28) hZ (wd33 hw) (wd3 hw) (by decide) (by decide)) q39a q39c (g := (mkF m 122 #[.val (.int p1), .val (.ref b1), .val (.int (4 : Int32)), .val (.ref w_BILLING_DEMAND_DAYS), .val (.int (0 : Int32)), .unset] [(.ref w_BILLING_DEMAND_DAYS)])) rfl (by rw [hml]; rfl) (Steps.refl _) (argsL := []) (rest := []) (lenOf pd_0 rfl) rfl (by show 2 * 0 + _ ≤ _; exact Nat.le_of_eq rfl) (hb hby at_122) (fun _ _ => ⟨rfl, e37, (by decide : 1 + 0 ≤ _), (by decide : 12 + 0 ≤ _)⟩)
  dsimp only [Pt.U, Pt.locs, Pt.cells, Pt.slots] at X39 l39 y39 z39 st39 hQ39
  subst l39 y39 z39
  obtain ⟨rfl, Nq39, ec39⟩ := hQ39
  have N39 := Fr.app N37 Nq39
  obtain ⟨fs, hr, hrun, hended, hW, hsame⟩ := X39.leave (v := some (.int (1 : Int32))) (fun h => by rw [Bd.returns] at h; cases h)
  refine ⟨_, _, pre0 _ ?_, hrun, hended, _, _, rfl, ?_, ⟨_, rfl⟩, hW, hsame.mono (by decide) (by decide)⟩
  · show Steps p.tables e below (s₁.setTop (mkF m 0 #[.val (.int p1), .unset, .unset, .unset, .unset, .unset] [])) _
    refine XS.bipush X0.here hx rfl (hb hby at_0) ?_
    show Steps p.tables e below (s₁.setTop (mkF m 2 #[.val (.int p1), .unset, .unset, .unset, .unset, .unset] [(.int (12 : Int32))])) _
    refine st1 _ ?_
    show Steps p.tables e below (T1.setTop (mkF m 5 #[.val (.int p1), .unset, .unset, .unset, .unset, .unset] [(.ref b1)])) _
    refine XS.dup X1.here hx rfl (hb hby at_5) rfl rfl ?_
    show Steps p.tables e below (T1.setTop (mkF m 6 #[.val (.int p1), .unset, .unset, .unset, .unset, .unset] [(.ref b1), (.ref b1)])) _
    refine XS.iconst X1.here hx rfl (hb hby at_6) ?_
    show Steps p.tables e below (T1.setTop (mkF m 7 #[.val (.int p1), .unset, .unset, .unset, .unset, .unset] [(.int (0 : Int32)), (.ref b1), (.ref b1)])) _
    refine st2 _ ?_
    show Steps p.tables e below (T2.setTop (mkF m 10 #[.val (.int p1), .unset, .unset, .unset, .unset, .unset] [(.ref w_DAYS), (.int (0 : Int32)), (.ref b1), (.ref b1)])) _
    refine st4 _ ?_
    show Steps p.tables e below (T4.setTop (mkF m 11 #[.val (.int p1), .unset, .unset, .unset, .unset, .unset] [(.ref b1)])) _
    refine XS.dup X4.here hx rfl (hb hby at_11) rfl rfl ?_
    show Steps p.tables e below (T4.setTop (mkF m 12 #[.val (.int p1), .unset, .unset, .unset, .unset, .unset] [(.ref b1), (.ref b1)])) _
    refine XS.iconst X4.here hx rfl (hb hby at_12) ?_
    show Steps p.tables e below (T4.setTop (mkF m 13 #[.val (.int p1), .unset, .unset, .unset, .unset, .unset] [(.int (1 : Int32)), (.ref b1), (.ref b1)])) _
    refine st5 _ ?_
    show Steps p.tables e below (T5.setTop (mkF m 16 #[.val (.int p1), .unset, .unset, .unset, .unset, .unset] [(.ref w_ENERGY), (.int (1 : Int32)), (.ref b1), (.ref b1)])) _
    refine st7 _ ?_
    show Steps p.tables e below (T7.setTop (mkF m 17 #[.val (.int p1), .unset, .unset, .unset, .unset, .unset] [(.ref b1)])) _
    refine XS.dup X7.here hx rfl (hb hby at_17) rfl rfl ?_
    show Steps p.tables e below (T7.setTop (mkF m 18 #[.val (.int p1), .unset, .unset, .unset, .unset, .unset] [(.ref b1), (.ref b1)])) _
    refine XS.iconst X7.here hx rfl (hb hby at_18) ?_
    show Steps p.tables e below (T7.setTop (mkF m 19 #[.val (.int p1), .unset, .unset, .unset, .unset, .unset] [(.int (2 : Int32)), (.ref b1), (.ref b1)])) _
    refine st8 _ ?_
    show Steps p.tables e below (T8.setTop (mkF m 22 #[.val (.int p1), .unset, .unset, .unset, .unset, .unset] [(.ref w_ON_PEAK_ENERGY), (.int (2 : Int32)), (.ref b1), (.ref b1)])) _
    refine st10 _ ?_
    show Steps p.tables e below (T10.setTop (mkF m 23 #[.val (.int p1), .unset, .unset, .unset, .unset, .unset] [(.ref b1)])) _
    refine XS.dup X10.here hx rfl (hb hby at_23) rfl rfl ?_
    show Steps p.tables e below (T10.setTop (mkF m 24 #[.val (.int p1), .unset, .unset, .unset, .unset, .unset] [(.ref b1), (.ref b1)])) _
    refine XS.iconst X10.here hx rfl (hb hby at_24) ?_
    show Steps p.tables e below (T10.setTop (mkF m 25 #[.val (.int p1), .unset, .unset, .unset, .unset, .unset] [(.int (3 : Int32)), (.ref b1), (.ref b1)])) _
    refine st11 _ ?_
    show Steps p.tables e below (T11.setTop (mkF m 28 #[.val (.int p1), .unset, .unset, .unset, .unset, .unset] [(.ref w_OFF_PEAK_ENERGY), (.int (3 : Int32)), (.ref b1), (.ref b1)])) _
    refine st13 _ ?_
    show Steps p.tables e below (T13.setTop (mkF m 29 #[.val (.int p1), .unset, .unset, .unset, .unset, .unset] [(.ref b1)])) _
    refine XS.dup X13.here hx rfl (hb hby at_29) rfl rfl ?_
    show Steps p.tables e below (T13.setTop (mkF m 30 #[.val (.int p1), .unset, .unset, .unset, .unset, .unset] [(.ref b1), (.ref b1)])) _
    refine XS.iconst X13.here hx rfl (hb hby at_30) ?_
    show Steps p.tables e below (T13.setTop (mkF m 31 #[.val (.int p1), .unset, .unset, .unset, .unset, .unset] [(.int (4 : Int32)), (.ref b1), (.ref b1)])) _
    refine st14 _ ?_
    show Steps p.tables e below (T14.setTop (mkF m 34 #[.val (.int p1), .unset, .unset, .unset, .unset, .unset] [(.ref w_BILLING_DEMAND_DAYS), (.int (4 : Int32)), (.ref b1), (.ref b1)])) _
    refine st16 _ ?_
    show Steps p.tables e below (T16.setTop (mkF m 35 #[.val (.int p1), .unset, .unset, .unset, .unset, .unset] [(.ref b1)])) _
    refine XS.dup X16.here hx rfl (hb hby at_35) rfl rfl ?_
    show Steps p.tables e below (T16.setTop (mkF m 36 #[.val (.int p1), .unset, .unset, .unset, .unset, .unset] [(.ref b1), (.ref b1)])) _
    refine XS.iconst X16.here hx rfl (hb hby at_36) ?_
    show Steps p.tables e below (T16.setTop (mkF m 37 #[.val (.int p1), .unset, .unset, .unset, .unset, .unset] [(.int (5 : Int32)), (.ref b1), (.ref b1)])) _
    refine st17 _ ?_
    show Steps p.tables e below (T17.setTop (mkF m 40 #[.val (.int p1), .unset, .unset, .unset, .unset, .unset] [(.ref w_METERED_DEMAND_DAYS), (.int (5 : Int32)), (.ref b1), (.ref b1)])) _
    refine st19 _ ?_
    show Steps p.tables e below (T19.setTop (mkF m 41 #[.val (.int p1), .unset, .unset, .unset, .unset, .unset] [(.ref b1)])) _
    refine XS.dup X19.here hx rfl (hb hby at_41) rfl rfl ?_
    show Steps p.tables e below (T19.setTop (mkF m 42 #[.val (.int p1), .unset, .unset, .unset, .unset, .unset] [(.ref b1), (.ref b1)])) _
    refine XS.bipush X19.here hx rfl (hb hby at_42) ?_
    show Steps p.tables e below (T19.setTop (mkF m 44 #[.val (.int p1), .unset, .unset, .unset, .unset, .unset] [(.int (6 : Int32)), (.ref b1), (.ref b1)])) _
    refine st20 _ ?_
    show Steps p.tables e below (T20.setTop (mkF m 47 #[.val (.int p1), .unset, .unset, .unset, .unset, .unset] [(.ref w_FIXTURE_DAYS), (.int (6 : Int32)), (.ref b1), (.ref b1)])) _
    refine st22 _ ?_
    show Steps p.tables e below (T22.setTop (mkF m 48 #[.val (.int p1), .unset, .unset, .unset, .unset, .unset] [(.ref b1)])) _
    refine XS.dup X22.here hx rfl (hb hby at_48) rfl rfl ?_
    show Steps p.tables e below (T22.setTop (mkF m 49 #[.val (.int p1), .unset, .unset, .unset, .unset, .unset] [(.ref b1), (.ref b1)])) _
    refine XS.bipush X22.here hx rfl (hb hby at_49) ?_
    show Steps p.tables e below (T22.setTop (mkF m 51 #[.val (.int p1), .unset, .unset, .unset, .unset, .unset] [(.int (7 : Int32)), (.ref b1), (.ref b1)])) _
    refine st23 _ ?_
    show Steps p.tables e below (T23.setTop (mkF m 54 #[.val (.int p1), .unset, .unset, .unset, .unset, .unset] [(.ref w_HIGHEST_HOUR_ENERGY), (.int (7 : Int32)), (.ref b1), (.ref b1)])) _
    refine st25 _ ?_
    show Steps p.tables e below (T25.setTop (mkF m 55 #[.val (.int p1), .unset, .unset, .unset, .unset, .unset] [(.ref b1)])) _
    refine XS.dup X25.here hx rfl (hb hby at_55) rfl rfl ?_
    show Steps p.tables e below (T25.setTop (mkF m 56 #[.val (.int p1), .unset, .unset, .unset, .unset, .unset] [(.ref b1), (.ref b1)])) _
    refine XS.bipush X25.here hx rfl (hb hby at_56) ?_
    show Steps p.tables e below (T25.setTop (mkF m 58 #[.val (.int p1), .unset, .unset, .unset, .unset, .unset] [(.int (8 : Int32)), (.ref b1), (.ref b1)])) _
    refine st26 _ ?_
    show Steps p.tables e below (T26.setTop (mkF m 61 #[.val (.int p1), .unset, .unset, .unset, .unset, .unset] [(.ref w_GAS_INDEXED_ENERGY), (.int (8 : Int32)), (.ref b1), (.ref b1)])) _
    refine st28 _ ?_
    show Steps p.tables e below (T28.setTop (mkF m 62 #[.val (.int p1), .unset, .unset, .unset, .unset, .unset] [(.ref b1)])) _
    refine XS.dup X28.here hx rfl (hb hby at_62) rfl rfl ?_
    show Steps p.tables e below (T28.setTop (mkF m 63 #[.val (.int p1), .unset, .unset, .unset, .unset, .unset] [(.ref b1), (.ref b1)])) _
    refine XS.bipush X28.here hx rfl (hb hby at_63) ?_
    show Steps p.tables e below (T28.setTop (mkF m 65 #[.val (.int p1), .unset, .unset, .unset, .unset, .unset] [(.int (9 : Int32)), (.ref b1), (.ref b1)])) _
    refine st29 _ ?_
    show Steps p.tables e below (T29.setTop (mkF m 68 #[.val (.int p1), .unset, .unset, .unset, .unset, .unset] [(.ref w_POOL_PRICED_ENERGY), (.int (9 : Int32)), (.ref b1), (.ref b1)])) _
    refine st31 _ ?_
    show Steps p.tables e below (T31.setTop (mkF m 69 #[.val (.int p1), .unset, .unset, .unset, .unset, .unset] [(.ref b1)])) _
    refine XS.dup X31.here hx rfl (hb hby at_69) rfl rfl ?_
    show Steps p.tables e below (T31.setTop (mkF m 70 #[.val (.int p1), .unset, .unset, .unset, .unset, .unset] [(.ref b1), (.ref b1)])) _
    refine XS.bipush X31.here hx rfl (hb hby at_70) ?_
    show Steps p.tables e below (T31.setTop (mkF m 72 #[.val (.int p1), .unset, .unset, .unset, .unset, .unset] [(.int (10 : Int32)), (.ref b1), (.ref b1)])) _
    refine st32 _ ?_
    show Steps p.tables e below (T32.setTop (mkF m 75 #[.val (.int p1), .unset, .unset, .unset, .unset, .unset] [(.ref w_ISO_COSTS), (.int (10 : Int32)), (.ref b1), (.ref b1)])) _
    refine st34 _ ?_
    show Steps p.tables e below (T34.setTop (mkF m 76 #[.val (.int p1), .unset, .unset, .unset, .unset, .unset] [(.ref b1)])) _
    refine XS.dup X34.here hx rfl (hb hby at_76) rfl rfl ?_
    show Steps p.tables e below (T34.setTop (mkF m 77 #[.val (.int p1), .unset, .unset, .unset, .unset, .unset] [(.ref b1), (.ref b1)])) _
    refine XS.bipush X34.here hx rfl (hb hby at_77) ?_
    show Steps p.tables e below (T34.setTop (mkF m 79 #[.val (.int p1), .unset, .unset, .unset, .unset, .unset] [(.int (11 : Int32)), (.ref b1), (.ref b1)])) _
    refine st35 _ ?_
    show Steps p.tables e below (T35.setTop (mkF m 82 #[.val (.int p1), .unset, .unset, .unset, .unset, .unset] [(.ref w_DISTRIBUTION_ACCESS_CHARGES), (.int (11 : Int32)), (.ref b1), (.ref b1)])) _
    refine st37 _ ?_
    show Steps p.tables e below (T37.setTop (mkF m 83 #[.val (.int p1), .unset, .unset, .unset, .unset, .unset] [(.ref b1)])) _
    refine XS.astoreN X37.here hx rfl (hb hby at_83) rfl rfl (l' := #[.val (.int p1), .val (.ref b1), .unset, .unset, .unset, .unset]) rfl ?_
    show Steps p.tables e below (T37.setTop (mkF m 84 #[.val (.int p1), .val (.ref b1), .unset, .unset, .unset, .unset] [])) _
    refine XS.iloadN X37.here hx rfl (hb hby at_84) rfl ?_
    show Steps p.tables e below (T37.setTop (mkF m 85 #[.val (.int p1), .val (.ref b1), .unset, .unset, .unset, .unset] [(.int p1)])) _
    refine X37.ldcInt hx hown (mvT hZ (wd28 hw)) (g := (mkF m 85 #[.val (.int p1), .val (.ref b1), .unset, .unset, .unset, .unset] [(.int p1)])) rfl (hb hby at_85) _ ?_
    show Steps p.tables e below (T37.setTop (mkF m 87 #[.val (.int p1), .val (.ref b1), .unset, .unset, .unset, .unset] [(.int (2147483647 : Int32)), (.int p1)])) _
    refine XS.iand X37.here hx rfl (hb hby at_87) rfl ?_
    show Steps p.tables e below (T37.setTop (mkF m 88 #[.val (.int p1), .val (.ref b1), .unset, .unset, .unset, .unset] [(.int (p1 &&& (2147483647 : Int32)))])) _
    refine XS.bipush X37.here hx rfl (hb hby at_88) ?_
    show Steps p.tables e below (T37.setTop (mkF m 90 #[.val (.int p1), .val (.ref b1), .unset, .unset, .unset, .unset] [(.int (12 : Int32)), (.int (p1 &&& (2147483647 : Int32)))])) _
    refine iremM X37 hx rfl (hb hby at_90) rfl (by decide) ?_
    show Steps p.tables e below (T37.setTop (mkF m 91 #[.val (.int p1), .val (.ref b1), .unset, .unset, .unset, .unset] [(.int ((p1 &&& (2147483647 : Int32)) % (12 : Int32)))])) _
    rw [pr25]
    show Steps p.tables e below (T37.setTop (mkF m 91 #[.val (.int p1), .val (.ref b1), .unset, .unset, .unset, .unset] [(.int (4 : Int32))])) _
    refine XS.istoreN X37.here hx rfl (hb hby at_91) rfl (l' := #[.val (.int p1), .val (.ref b1), .val (.int (4 : Int32)), .unset, .unset, .unset]) rfl ?_
    show Steps p.tables e below (T37.setTop (mkF m 92 #[.val (.int p1), .val (.ref b1), .val (.int (4 : Int32)), .unset, .unset, .unset] [])) _
    refine XS.aloadN X37.here hx rfl (hb hby at_92) rfl rfl ?_
    show Steps p.tables e below (T37.setTop (mkF m 93 #[.val (.int p1), .val (.ref b1), .val (.int (4 : Int32)), .unset, .unset, .unset] [(.ref b1)])) _
    refine XS.iloadN X37.here hx rfl (hb hby at_93) rfl ?_
    show Steps p.tables e below (T37.setTop (mkF m 94 #[.val (.int p1), .val (.ref b1), .val (.int (4 : Int32)), .unset, .unset, .unset] [(.int (4 : Int32)), (.ref b1)])) _
    refine X37.aaload hx (j := (4 : Int32)) (v := (.ref w_BILLING_DEMAND_DAYS)) (by rw [e37]; exact Ar38.1) (State.isArrayOf_alike hZ.alike Ar38.2.1) rfl Ar38.2.2 hin38 hat38 (g := (mkF m 94 #[.val (.int p1), .val (.ref b1), .val (.int (4 : Int32)), .unset, .unset, .unset] [(.int (4 : Int32)), (.ref b1)])) rfl rfl (hb hby at_94) _ ?_
    show Steps p.tables e below (T37.setTop (mkF m 95 #[.val (.int p1), .val (.ref b1), .val (.int (4 : Int32)), .unset, .unset, .unset] [(.ref w_BILLING_DEMAND_DAYS)])) _
    refine XS.astoreN X37.here hx rfl (hb hby at_95) rfl rfl (l' := #[.val (.int p1), .val (.ref b1), .val (.int (4 : Int32)), .val (.ref w_BILLING_DEMAND_DAYS), .unset, .unset]) rfl ?_
    show Steps p.tables e below (T37.setTop (mkF m 96 #[.val (.int p1), .val (.ref b1), .val (.int (4 : Int32)), .val (.ref w_BILLING_DEMAND_DAYS), .unset, .unset] [])) _
    refine XS.iloadN X37.here hx rfl (hb hby at_96) rfl ?_
    show Steps p.tables e below (T37.setTop (mkF m 97 #[.val (.int p1), .val (.ref b1), .val (.int (4 : Int32)), .val (.ref w_BILLING_DEMAND_DAYS), .unset, .unset] [(.int (4 : Int32))])) _
    refine XS.bipush X37.here hx rfl (hb hby at_97) ?_
    show Steps p.tables e below (T37.setTop (mkF m 99 #[.val (.int p1), .val (.ref b1), .val (.int (4 : Int32)), .val (.ref w_BILLING_DEMAND_DAYS), .unset, .unset] [(.int (7 : Int32)), (.int (4 : Int32))])) _
    refine XS.icmpNo X37.here hx rfl (hb hby at_99) rfl (feq (by decide : ¬ ((4 : Int32) = (7 : Int32)))).1 ?_
    show Steps p.tables e below (T37.setTop (mkF m 102 #[.val (.int p1), .val (.ref b1), .val (.int (4 : Int32)), .val (.ref w_BILLING_DEMAND_DAYS), .unset, .unset] [])) _
    refine XS.iloadN X37.here hx rfl (hb hby at_102) rfl ?_
    show Steps p.tables e below (T37.setTop (mkF m 103 #[.val (.int p1), .val (.ref b1), .val (.int (4 : Int32)), .val (.ref w_BILLING_DEMAND_DAYS), .unset, .unset] [(.int (4 : Int32))])) _
    refine XS.bipush X37.here hx rfl (hb hby at_103) ?_
    show Steps p.tables e below (T37.setTop (mkF m 105 #[.val (.int p1), .val (.ref b1), .val (.int (4 : Int32)), .val (.ref w_BILLING_DEMAND_DAYS), .unset, .unset] [(.int (8 : Int32)), (.int (4 : Int32))])) _
    refine XS.icmpNo X37.here hx rfl (hb hby at_105) rfl (feq (by decide : ¬ ((4 : Int32) = (8 : Int32)))).1 ?_
    show Steps p.tables e below (T37.setTop (mkF m 108 #[.val (.int p1), .val (.ref b1), .val (.int (4 : Int32)), .val (.ref w_BILLING_DEMAND_DAYS), .unset, .unset] [])) _
    refine XS.iloadN X37.here hx rfl (hb hby at_108) rfl ?_
    show Steps p.tables e below (T37.setTop (mkF m 109 #[.val (.int p1), .val (.ref b1), .val (.int (4 : Int32)), .val (.ref w_BILLING_DEMAND_DAYS), .unset, .unset] [(.int (4 : Int32))])) _
    refine XS.bipush X37.here hx rfl (hb hby at_109) ?_
    show Steps p.tables e below (T37.setTop (mkF m 111 #[.val (.int p1), .val (.ref b1), .val (.int (4 : Int32)), .val (.ref w_BILLING_DEMAND_DAYS), .unset, .unset] [(.int (9 : Int32)), (.int (4 : Int32))])) _
    refine XS.icmpYes X37.here hx rfl (pc0 := 111) (pc' := 118) rfl (hb hby at_111) rfl (feq (by decide : ¬ ((4 : Int32) = (9 : Int32)))).2 (by decide) (by decide) ?_
    show Steps p.tables e below (T37.setTop (mkF m 118 #[.val (.int p1), .val (.ref b1), .val (.int (4 : Int32)), .val (.ref w_BILLING_DEMAND_DAYS), .unset, .unset] [])) _
    refine XS.iconst X37.here hx rfl (hb hby at_118) ?_
    show Steps p.tables e below (T37.setTop (mkF m 119 #[.val (.int p1), .val (.ref b1), .val (.int (4 : Int32)), .val (.ref w_BILLING_DEMAND_DAYS), .unset, .unset] [(.int (0 : Int32))])) _
    refine XS.istore X37.here hx rfl (hb hby at_119) rfl (l' := #[.val (.int p1), .val (.ref b1), .val (.int (4 : Int32)), .val (.ref w_BILLING_DEMAND_DAYS), .val (.int (0 : Int32)), .unset]) rfl ?_
    show Steps p.tables e below (T37.setTop (mkF m 121 #[.val (.int p1), .val (.ref b1), .val (.int (4 : Int32)), .val (.ref w_BILLING_DEMAND_DAYS), .val (.int (0 : Int32)), .unset] [])) _
    refine XS.aloadN X37.here hx rfl (hb hby at_121) rfl rfl ?_
    show Steps p.tables e below (T37.setTop (mkF m 122 #[.val (.int p1), .val (.ref b1), .val (.int (4 : Int32)), .val (.ref w_BILLING_DEMAND_DAYS), .val (.int (0 : Int32)), .unset] [(.ref w_BILLING_DEMAND_DAYS)])) _
    refine st39.trans ?_
    show Steps p.tables e below (T39.setTop (mkF m 125 #[.val (.int p1), .val (.ref b1), .val (.int (4 : Int32)), .val (.ref w_BILLING_DEMAND_DAYS), .val (.int (0 : Int32)), .unset] [(.int (0 : Int32))])) _
    refine XS.istore X39.here hx rfl (hb hby at_125) rfl (l' := #[.val (.int p1), .val (.ref b1), .val (.int (4 : Int32)), .val (.ref w_BILLING_DEMAND_DAYS), .val (.int (0 : Int32)), .val (.int (0 : Int32))]) rfl ?_
    show Steps p.tables e below (T39.setTop (mkF m 127 #[.val (.int p1), .val (.ref b1), .val (.int (4 : Int32)), .val (.ref w_BILLING_DEMAND_DAYS), .val (.int (0 : Int32)), .val (.int (0 : Int32))] [])) _
    refine XS.iload X39.here hx rfl (hb hby at_127) rfl ?_
    show Steps p.tables e below (T39.setTop (mkF m 129 #[.val (.int p1), .val (.ref b1), .val (.int (4 : Int32)), .val (.ref w_BILLING_DEMAND_DAYS), .val (.int (0 : Int32)), .val (.int (0 : Int32))] [(.int (0 : Int32))])) _
    refine XS.iload X39.here hx rfl (hb hby at_129) rfl ?_
    show Steps p.tables e below (T39.setTop (mkF m 131 #[.val (.int p1), .val (.ref b1), .val (.int (4 : Int32)), .val (.ref w_BILLING_DEMAND_DAYS), .val (.int (0 : Int32)), .val (.int (0 : Int32))] [(.int (0 : Int32)), (.int (0 : Int32))])) _
    refine XS.icmpYes X39.here hx rfl (pc0 := 131) (pc' := 136) rfl (hb hby at_131) rfl (teq (rfl : (0 : Int32) = (0 : Int32))).1 (by decide) (by decide) ?_
    show Steps p.tables e below (T39.setTop (mkF m 136 #[.val (.int p1), .val (.ref b1), .val (.int (4 : Int32)), .val (.ref w_BILLING_DEMAND_DAYS), .val (.int (0 : Int32)), .val (.int (0 : Int32))] [])) _
    refine XS.iload X39.here hx rfl (hb hby at_136) rfl ?_
    show Steps p.tables e below (T39.setTop (mkF m 138 #[.val (.int p1), .val (.ref b1), .val (.int (4 : Int32)), .val (.ref w_BILLING_DEMAND_DAYS), .val (.int (0 : Int32)), .val (.int (0 : Int32))] [(.int (0 : Int32))])) _
    refine XS.ifYes X39.here hx rfl (pc0 := 138) (pc' := 164) rfl (hb hby at_138) rfl ((if0 _ _).trans (teq (rfl : (0 : Int32) = (0 : Int32))).1) (by decide) (by decide) ?_
    show Steps p.tables e below (T39.setTop (mkF m 164 #[.val (.int p1), .val (.ref b1), .val (.int (4 : Int32)), .val (.ref w_BILLING_DEMAND_DAYS), .val (.int (0 : Int32)), .val (.int (0 : Int32))] [])) _
    refine XS.iconst X39.here hx rfl (hb hby at_164) ?_
    show Steps p.tables e below (T39.setTop (mkF m 165 #[.val (.int p1), .val (.ref b1), .val (.int (4 : Int32)), .val (.ref w_BILLING_DEMAND_DAYS), .val (.int (0 : Int32)), .val (.int (0 : Int32))] [(.int (1 : Int32))])) _
    exact retN X39 hx (t := .boolean) Bd.returns (by simp) (hb hby at_165) hr
  · exact ⟨rfl, N39⟩
set_option maxRecDepth 65536 in
set_option maxHeartbeats 40000000 in
theorem rm0_5 (l : Launch) (Z : State) (a0 : Array Value) (hw : ∀ d ∈ tables_1, d.before a0 Z = true) (ws : List Jvm.Cond) (p1 : Int32) (w_DAYS : Addr) (w_ENERGY : Addr) (w_ON_PEAK_ENERGY : Addr) (w_OFF_PEAK_ENERGY : Addr) (w_BILLING_DEMAND_DAYS : Addr) (w_METERED_DEMAND_DAYS : Addr) (w_FIXTURE_DAYS : Addr) (w_HIGHEST_HOUR_ENERGY : Addr) (w_GAS_INDEXED_ENERGY : Addr) (w_POOL_PRICED_ENERGY : Addr) (w_ISO_COSTS : Addr) (w_DISTRIBUTION_ACCESS_CHARGES : Addr) (h0 : Heap) (n0 : Nat) (OL0 : Old Z n0 h0) (pr1 : Sta Z Z.heap "com/example/tarcal/tarcal/schedules/Basis" "DAYS" "Lcom/example/tarcal/tarcal/schedules/Basis;" (.ref w_DAYS)) (pr2 : Exa Z Z.heap w_DAYS "com/example/tarcal/tarcal/schedules/Basis") (pr3 : Sta Z Z.heap "com/example/tarcal/tarcal/schedules/Basis" "ENERGY" "Lcom/example/tarcal/tarcal/schedules/Basis;" (.ref w_ENERGY)) (pr4 : Exa Z Z.heap w_ENERGY "com/example/tarcal/tarcal/schedules/Basis") (pr5 : Sta Z Z.heap "com/example/tarcal/tarcal/schedules/Basis" "ON_PEAK_ENERGY" "Lcom/example/tarcal/tarcal/schedules/Basis;" (.ref w_ON_PEAK_ENERGY)) (pr6 : Exa Z Z.heap w_ON_PEAK_ENERGY "com/example/tarcal/tarcal/schedules/Basis") (pr7 : Sta Z Z.heap "com/example/tarcal/tarcal/schedules/Basis" "OFF_PEAK_ENERGY" "Lcom/example/tarcal/tarcal/schedules/Basis;" (.ref w_OFF_PEAK_ENERGY)) (pr8 : Exa Z Z.heap w_OFF_PEAK_ENERGY "com/example/tarcal/tarcal/schedules/Basis") (pr9 : Sta Z Z.heap "com/example/tarcal/tarcal/schedules/Basis" "BILLING_DEMAND_DAYS" "Lcom/example/tarcal/tarcal/schedules/Basis;" (.ref w_BILLING_DEMAND_DAYS)) (pr10 : Exa Z Z.heap w_BILLING_DEMAND_DAYS "com/example/tarcal/tarcal/schedules/Basis") (pr11 : Sta Z Z.heap "com/example/tarcal/tarcal/schedules/Basis" "METERED_DEMAND_DAYS" "Lcom/example/tarcal/tarcal/schedules/Basis;" (.ref w_METERED_DEMAND_DAYS)) (pr12 : Exa Z Z.heap w_METERED_DEMAND_DAYS "com/example/tarcal/tarcal/schedules/Basis") (pr13 : Sta Z Z.heap "com/example/tarcal/tarcal/schedules/Basis" "FIXTURE_DAYS" "Lcom/example/tarcal/tarcal/schedules/Basis;" (.ref w_FIXTURE_DAYS)) (pr14 : Exa Z Z.heap w_FIXTURE_DAYS "com/example/tarcal/tarcal/schedules/Basis") (pr15 : Sta Z Z.heap "com/example/tarcal/tarcal/schedules/Basis" "HIGHEST_HOUR_ENERGY" "Lcom/example/tarcal/tarcal/schedules/Basis;" (.ref w_HIGHEST_HOUR_ENERGY)) (pr16 : Exa Z Z.heap w_HIGHEST_HOUR_ENERGY "com/example/tarcal/tarcal/schedules/Basis") (pr17 : Sta Z Z.heap "com/example/tarcal/tarcal/schedules/Basis" "GAS_INDEXED_ENERGY" "Lcom/example/tarcal/tarcal/schedules/Basis;" (.ref w_GAS_INDEXED_ENERGY)) (pr18 : Exa Z Z.heap w_GAS_INDEXED_ENERGY "com/example/tarcal/tarcal/schedules/Basis") (pr19 : Sta Z Z.heap "com/example/tarcal/tarcal/schedules/Basis" "POOL_PRICED_ENERGY" "Lcom/example/tarcal/tarcal/schedules/Basis;" (.ref w_POOL_PRICED_ENERGY)) (pr20 : Exa Z Z.heap w_POOL_PRICED_ENERGY "com/example/tarcal/tarcal/schedules/Basis") (pr21 : Sta Z Z.heap "com/example/tarcal/tarcal/schedules/Basis" "ISO_COSTS" "Lcom/example/tarcal/tarcal/schedules/Basis;" (.ref w_ISO_COSTS)) (pr22 : Exa Z Z.heap w_ISO_COSTS "com/example/tarcal/tarcal/schedules/Basis") (pr23 : Sta Z Z.heap "com/example/tarcal/tarcal/schedules/Basis" "DISTRIBUTION_ACCESS_CHARGES" "Lcom/example/tarcal/tarcal/schedules/Basis;" (.ref w_DISTRIBUTION_ACCESS_CHARGES)) (pr24 : Exa Z Z.heap w_DISTRIBUTION_ACCESS_CHARGES "com/example/tarcal/tarcal/schedules/Basis") (pr25 : ((p1 &&& (2147483647 : Int32)) % (12 : Int32)) = (5 : Int32)) (pr26 : w_METERED_DEMAND_DAYS ≠ w_HIGHEST_HOUR_ENERGY) (pr27 : w_METERED_DEMAND_DAYS ≠ w_GAS_INDEXED_ENERGY) (pr28 : w_METERED_DEMAND_DAYS ≠ w_POOL_PRICED_ENERGY) :
    MetFree l x (head1 (Jvm.Cond.code x code maxLocals ret :: ws) room_1) (fun a U => a = #[(.int p1)] ∧ Z.Warmed39 U.vm ∧ U.heap = h0) (fun _ _ _ _ _ => True) (fun _ U o U' => ∃ v L, o = .returned v ∧ Q0 n0 v L ∧ FrameEnd U o U' L 16 128) := by
  refine MetFree.of_bodySF (plainFor_of_name pn_1) hisR ?_
  intro p e s m args below meth c s₁ Bd hml0 hP hK
  obtain ⟨rfl, hZ, hh⟩ := hP
  have hx := Bd.exec
  have hby := Bd.bytes
  have hml : c.maxLocals = 6 := hml0
  have hown : s.vm.findClass "com/example/tarcal/tarcal/schedules/BasisPerPeriodPinLaw" = some m.cls := findClass_of_methodNamed Bd.named
  have hnm := (name_of_methodNamed Bd.named Bd.method).1
  have X0 : Stand p l e room_1 s m #[(.int p1)] below meth c s₁ [] 0 0 := Stand.of_body Bd
  have e0 : s₁.heap = h0 := by rw [← hh, Bd.state]; rfl
  have N0 := Fr.nil n0
  have pre0 : ∀ t, Steps p.tables e below (s₁.setTop (mkF m 0 #[.val (.int p1), .unset, .unset, .unset, .unset, .unset] [])) t → Steps p.tables e below (s₁.setTop (entryFrame m #[(.int p1)] maxLocals)) t := fun t k => castTop (ef_0_1 m p1) k
  obtain ⟨T1, h1, k1, X1, e1, E1, A1, O1, st1⟩ := newR X0 hx hZ hown (wd0 hw) (wd1 hw) e0 (g := (mkF m 2 #[.val (.int p1), .unset, .unset, .unset, .unset, .unset] [(.int (12 : Int32))])) rfl (hb hby at_2) rfl (by decide) (cap := 12) (by decide) (by decide) (by decide) (by decide)
  obtain ⟨b1, g1⟩ : ∃ z, z = h0.size := ⟨_, rfl⟩
  rw [← g1] at A1 st1
  have V1 : Arv Z h1 b1 k1 (.object "com/example/tarcal/tarcal/schedules/Basis") (12 : Int32) [.null, .null, .null, .null, .null, .null, .null, .null, .null, .null, .null, .null] .null := (Arv.new A1 (by decide)).pad (pad_rep [] .null 12)
  have g_b1 : n0 ≤ b1 := (Nat.le_trans (Nat.le_trans (Nat.le_of_eq OL0.1.symm) OL0.2.1) (Nat.le_of_eq g1.symm))
  have sz_b1 : h0.size ≤ b1 := (Nat.le_trans (Keep.refl h0 []).1 (Nat.le_of_eq g1.symm))
  have KK1 : Keep h0 h1 [] := (Keep.refl h0 []).ext E1
  have OL1 := OL0.ext E1
  obtain ⟨T2, X2, e2, st2⟩ := getS2 X1 hx hZ hown (host := "") (Or.inl (wd2 hw)) Via.refl e1 (pr1.ext OL1.2) (g := (mkF m 7 #[.val (.int p1), .unset, .unset, .unset, .unset, .unset] [(.int (0 : Int32)), (.ref b1), (.ref b1)])) rfl (hb hby at_7)
  obtain ⟨cl3, Ar3, q3, S3, M3, Hs3, G3⟩ := V1
  have hin3 : ¬ ((0 : Int32) < 0 ∨ cl3.slots.size ≤ ((0 : Int32)).toNatClampNeg) := inb_of S3 ⟨by decide, by decide⟩
  obtain ⟨T4, h4, X4, e4, W4, st4⟩ := stR X2 hx hZ e2 Ar3 (j := (0 : Int32)) hin3 rfl (Sto.ofV Ar3 q3 O1 (Ins.self (pr2.ext OL1.2))) (g := (mkF m 10 #[.val (.int p1), .unset, .unset, .unset, .unset, .unset] [(.ref w_DAYS), (.int (0 : Int32)), (.ref b1), (.ref b1)])) rfl rfl (hb hby at_10)
  have V4 : Arv Z h4 b1 k1 (.object "com/example/tarcal/tarcal/schedules/Basis") (12 : Int32) [(.ref w_DAYS), .null, .null, .null, .null, .null, .null, .null, .null, .null, .null, .null] .null := Arv.set Ar3 q3 S3 M3 Hs3 G3 rfl W4 0 rfl (Nat.le_of_ble_eq_true rfl)
  have KK4 : Keep h0 h4 [] := KK1.wr W4 (Or.inr sz_b1)
  have OL4 := OL1.wr W4 g_b1
  have N4 := Fr.snoc X4 N0 g_b1
  obtain ⟨T5, X5, e5, st5⟩ := getS2 X4 hx hZ hown (host := "") (Or.inl (wd6 hw)) Via.refl e4 (pr3.ext OL4.2) (g := (mkF m 13 #[.val (.int p1), .unset, .unset, .unset, .unset, .unset] [(.int (1 : Int32)), (.ref b1), (.ref b1)])) rfl (hb hby at_13)
  obtain ⟨cl6, Ar6, q6, S6, M6, Hs6, G6⟩ := V4
  have hin6 : ¬ ((1 : Int32) < 0 ∨ cl6.slots.size ≤ ((1 : Int32)).toNatClampNeg) := inb_of S6 ⟨by decide, by decide⟩
  obtain ⟨T7, h7, X7, e7, W7, st7⟩ := stR X5 hx hZ e5 Ar6 (j := (1 : Int32)) hin6 rfl (Sto.ofV Ar6 q6 O1 (Ins.self (pr4.ext OL4.2))) (g := (mkF m 16 #[.val (.int p1), .unset, .unset, .unset, .unset, .unset] [(.ref w_ENERGY), (.int (1 : Int32)), (.ref b1), (.ref b1)])) rfl rfl (hb hby at_16)
  have V7 : Arv Z h7 b1 k1 (.object "com/example/tarcal/tarcal/schedules/Basis") (12 : Int32) [(.ref w_DAYS), (.ref w_ENERGY), .null, .null, .null, .null, .null, .null, .null, .null, .null, .null] .null := Arv.set Ar6 q6 S6 M6 Hs6 G6 rfl W7 1 rfl (Nat.le_of_ble_eq_true rfl)
  have KK7 : Keep h0 h7 [] := KK4.wr W7 (Or.inr sz_b1)
  have OL7 := OL4.wr W7 g_b1
  have N7 := Fr.snoc X7 N4 g_b1
  obtain ⟨T8, X8, e8, st8⟩ := getS2 X7 hx hZ hown (host := "") (Or.inl (wd8 hw)) Via.refl e7 (pr5.ext OL7.2) (g := (mkF m 19 #[.val (.int p1), .unset, .unset, .unset, .unset, .unset] [(.int (2 : Int32)), (.ref b1), (.ref b1)])) rfl (hb hby at_19)
  obtain ⟨cl9, Ar9, q9, S9, M9, Hs9, G9⟩ := V7
  have hin9 : ¬ ((2 : Int32) < 0 ∨ cl9.slots.size ≤ ((2 : Int32)).toNatClampNeg) := inb_of S9 ⟨by decide, by decide⟩
  obtain ⟨T10, h10, X10, e10, W10, st10⟩ := stR X8 hx hZ e8 Ar9 (j := (2 : Int32)) hin9 rfl (Sto.ofV Ar9 q9 O1 (Ins.self (pr6.ext OL7.2))) (g := (mkF m 22 #[.val (.int p1), .unset, .unset, .unset, .unset, .unset] [(.ref w_ON_PEAK_ENERGY), (.int (2 : Int32)), (.ref b1), (.ref b1)])) rfl rfl (hb hby at_22)
  have V10 : Arv Z h10 b1 k1 (.object "com/example/tarcal/tarcal/schedules/Basis") (12 : Int32) [(.ref w_DAYS), (.ref w_ENERGY), (.ref w_ON_PEAK_ENERGY), .null, .null, .null, .null, .null, .null, .null, .null, .null] .null := Arv.set Ar9 q9 S9 M9 Hs9 G9 rfl W10 2 rfl (Nat.le_of_ble_eq_true rfl)
  have KK10 : Keep h0 h10 [] := KK7.wr W10 (Or.inr sz_b1)
  have OL10 := OL7.wr W10 g_b1
  have N10 := Fr.snoc X10 N7 g_b1
  obtain ⟨T11, X11, e11, st11⟩ := getS2 X10 hx hZ hown (host := "") (Or.inl (wd10 hw)) Via.refl e10 (pr7.ext OL10.2) (g := (mkF m 25 #[.val (.int p1), .unset, .unset, .unset, .unset, .unset] [(.int (3 : Int32)), (.ref b1), (.ref b1)])) rfl (hb hby at_25)
  obtain ⟨cl12, Ar12, q12, S12, M12, Hs12, G12⟩ := V10
  have hin12 : ¬ ((3 : Int32) < 0 ∨ cl12.slots.size ≤ ((3 : Int32)).toNatClampNeg) := inb_of S12 ⟨by decide, by decide⟩
  obtain ⟨T13, h13, X13, e13, W13, st13⟩ := stR X11 hx hZ e11 Ar12 (j := (3 : Int32)) hin12 rfl (Sto.ofV Ar12 q12 O1 (Ins.self (pr8.ext OL10.2))) (g := (mkF m 28 #[.val (.int p1), .unset, .unset, .unset, .unset, .unset] [(.ref w_OFF_PEAK_ENERGY), (.int (3 : Int32)), (.ref b1), (.ref b1)])) rfl rfl (hb hby at_28)
  have V13 : Arv Z h13 b1 k1 (.object "com/example/tarcal/tarcal/schedules/Basis") (12 : Int32) [(.ref w_DAYS), (.ref w_ENERGY), (.ref w_ON_PEAK_ENERGY), (.ref w_OFF_PEAK_ENERGY), .null, .null, .null, .null, .null, .null, .null, .null] .null := Arv.set Ar12 q12 S12 M12 Hs12 G12 rfl W13 3 rfl (Nat.le_of_ble_eq_true rfl)
  have KK13 : Keep h0 h13 [] := KK10.wr W13 (Or.inr sz_b1)
  have OL13 := OL10.wr W13 g_b1
  have N13 := Fr.snoc X13 N10 g_b1
  obtain ⟨T14, X14, e14, st14⟩ := getS2 X13 hx hZ hown (host := "") (Or.inl (wd12 hw)) Via.refl e13 (pr9.ext OL13.2) (g := (mkF m 31 #[.val (.int p1), .unset, .unset, .unset, .unset, .unset] [(.int (4 : Int32)), (.ref b1), (.ref b1)])) rfl (hb hby at_31)
  obtain ⟨cl15, Ar15, q15, S15, M15, Hs15, G15⟩ := V13
  have hin15 : ¬ ((4 : Int32) < 0 ∨ cl15.slots.size ≤ ((4 : Int32)).toNatClampNeg) := inb_of S15 ⟨by decide, by decide⟩
  obtain ⟨T16, h16, X16, e16, W16, st16⟩ := stR X14 hx hZ e14 Ar15 (j := (4 : Int32)) hin15 rfl (Sto.ofV Ar15 q15 O1 (Ins.self (pr10.ext OL13.2))) (g := (mkF m 34 #[.val (.int p1), .unset, .unset, .unset, .unset, .unset] [(.ref w_BILLING_DEMAND_DAYS), (.int (4 : Int32)), (.ref b1), (.ref b1)])) rfl rfl (hb hby at_34)
  have V16 : Arv Z h16 b1 k1 (.object "com/example/tarcal/tarcal/schedules/Basis") (12 : Int32) [(.ref w_DAYS), (.ref w_ENERGY), (.ref w_ON_PEAK_ENERGY), (.ref w_OFF_PEAK_ENERGY), (.ref w_BILLING_DEMAND_DAYS), .null, .null, .null, .null, .null, .null, .null] .null := Arv.set Ar15 q15 S15 M15 Hs15 G15 rfl W16 4 rfl (Nat.le_of_ble_eq_true rfl)
  have KK16 : Keep h0 h16 [] := KK13.wr W16 (Or.inr sz_b1)
  have OL16 := OL13.wr W16 g_b1
  have N16 := Fr.snoc X16 N13 g_b1
  obtain ⟨T17, X17, e17, st17⟩ := getS2 X16 hx hZ hown (host := "") (Or.inl (wd14 hw)) Via.refl e16 (pr11.ext OL16.2) (g := (mkF m 37 #[.val (.int p1), .unset, .unset, .unset, .unset, .unset] [(.int (5 : Int32)), (.ref b1), (.ref b1)])) rfl (hb hby at_37)
  obtain ⟨cl18, Ar18, q18, S18, M18, Hs18, G18⟩ := V16
  have hin18 : ¬ ((5 : Int32) < 0 ∨ cl18.slots.size ≤ ((5 : Int32)).toNatClampNeg) := inb_of S18 ⟨by decide, by decide⟩
  obtain ⟨T19, h19, X19, e19, W19, st19⟩ := stR X17 hx hZ e17 Ar18 (j := (5 : Int32)) hin18 rfl (Sto.ofV Ar18 q18 O1 (Ins.self (pr12.ext OL16.2))) (g := (mkF m 40 #[.val (.int p1), .unset, .unset, .unset, .unset, .unset] [(.ref w_METERED_DEMAND_DAYS), (.int (5 : Int32)), (.ref b1), (.ref b1)])) rfl rfl (hb hby at_40)
  have V19 : Arv Z h19 b1 k1 (.object "com/example/tarcal/tarcal/schedules/Basis") (12 : Int32) [(.ref w_DAYS), (.ref w_ENERGY), (.ref w_ON_PEAK_ENERGY), (.ref w_OFF_PEAK_ENERGY), (.ref w_BILLING_DEMAND_DAYS), (.ref w_METERED_DEMAND_DAYS), .null, .null, .null, .null, .null, .null] .null := Arv.set Ar18 q18 S18 M18 Hs18 G18 rfl W19 5 rfl (Nat.le_of_ble_eq_true rfl)
  have KK19 : Keep h0 h19 [] := KK16.wr W19 (Or.inr sz_b1)
  have OL19 := OL16.wr W19 g_b1
  have N19 := Fr.snoc X19 N16 g_b1
  obtain ⟨T20, X20, e20, st20⟩ := getS2 X19 hx hZ hown (host := "") (Or.inl (wd16 hw)) Via.refl e19 (pr13.ext OL19.2) (g := (mkF m 44 #[.val (.int p1), .unset, .unset, .unset, .unset, .unset] [(.int (6 : Int32)), (.ref b1), (.ref b1)])) rfl (hb hby at_44)
  obtain ⟨cl21, Ar21, q21, S21, M21, Hs21, G21⟩ := V19
  have hin21 : ¬ ((6 : Int32) < 0 ∨ cl21.slots.size ≤ ((6 : Int32)).toNatClampNeg) := inb_of S21 ⟨by decide, by decide⟩
  obtain ⟨T22, h22, X22, e22, W22, st22⟩ := stR X20 hx hZ e20 Ar21 (j := (6 : Int32)) hin21 rfl (Sto.ofV Ar21 q21 O1 (Ins.self (pr14.ext OL19.2))) (g := (mkF m 47 #[.val (.int p1), .unset, .unset, .unset, .unset, .unset] [(.ref w_FIXTURE_DAYS), (.int (6 : Int32)), (.ref b1), (.ref b1)])) rfl rfl (hb hby at_47)
  have V22 : Arv Z h22 b1 k1 (.object "com/example/tarcal/tarcal/schedules/Basis") (12 : Int32) [(.ref w_DAYS), (.ref w_ENERGY), (.ref w_ON_PEAK_ENERGY), (.ref w_OFF_PEAK_ENERGY), (.ref w_BILLING_DEMAND_DAYS), (.ref w_METERED_DEMAND_DAYS), (.ref w_FIXTURE_DAYS), .null, .null, .null, .null, .null] .null := Arv.set Ar21 q21 S21 M21 Hs21 G21 rfl W22 6 rfl (Nat.le_of_ble_eq_true rfl)
  have KK22 : Keep h0 h22 [] := KK19.wr W22 (Or.inr sz_b1)
  have OL22 := OL19.wr W22 g_b1
  have N22 := Fr.snoc X22 N19 g_b1
  obtain ⟨T23, X23, e23, st23⟩ := getS2 X22 hx hZ hown (host := "") (Or.inl (wd18 hw)) Via.refl e22 (pr15.ext OL22.2) (g := (mkF m 51 #[.val (.int p1), .unset, .unset, .unset, .unset, .unset] [(.int (7 : Int32)), (.ref b1), (.ref b1)])) rfl (hb hby at_51)
  obtain ⟨cl24, Ar24, q24, S24, M24, Hs24, G24⟩ := V22
  have hin24 : ¬ ((7 : Int32) < 0 ∨ cl24.slots.size ≤ ((7 : Int32)).toNatClampNeg) := inb_of S24 ⟨by decide, by decide⟩
  obtain ⟨T25, h25, X25, e25, W25, st25⟩ := stR X23 hx hZ e23 Ar24 (j := (7 : Int32)) hin24 rfl (Sto.ofV Ar24 q24 O1 (Ins.self (pr16.ext OL22.2))) (g := (mkF m 54 #[.val (.int p1), .unset, .unset, .unset, .unset, .unset] [(.ref w_HIGHEST_HOUR_ENERGY), (.int (7 : Int32)), (.ref b1), (.ref b1)])) rfl rfl (hb hby at_54)
  have V25 : Arv Z h25 b1 k1 (.object "com/example/tarcal/tarcal/schedules/Basis") (12 : Int32) [(.ref w_DAYS), (.ref w_ENERGY), (.ref w_ON_PEAK_ENERGY), (.ref w_OFF_PEAK_ENERGY), (.ref w_BILLING_DEMAND_DAYS), (.ref w_METERED_DEMAND_DAYS), (.ref w_FIXTURE_DAYS), (.ref w_HIGHEST_HOUR_ENERGY), .null, .null, .null, .null] .null := Arv.set Ar24 q24 S24 M24 Hs24 G24 rfl W25 7 rfl (Nat.le_of_ble_eq_true rfl)
  have KK25 : Keep h0 h25 [] := KK22.wr W25 (Or.inr sz_b1)
  have OL25 := OL22.wr W25 g_b1
  have N25 := Fr.snoc X25 N22 g_b1
  obtain ⟨T26, X26, e26, st26⟩ := getS2 X25 hx hZ hown (host := "") (Or.inl (wd20 hw)) Via.refl e25 (pr17.ext OL25.2) (g := (mkF m 58 #[.val (.int p1), .unset, .unset, .unset, .unset, .unset] [(.int (8 : Int32)), (.ref b1), (.ref b1)])) rfl (hb hby at_58)
  obtain ⟨cl27, Ar27, q27, S27, M27, Hs27, G27⟩ := V25
  have hin27 : ¬ ((8 : Int32) < 0 ∨ cl27.slots.size ≤ ((8 : Int32)).toNatClampNeg) := inb_of S27 ⟨by decide, by decide⟩
  obtain ⟨T28, h28, X28, e28, W28, st28⟩ := stR X26 hx hZ e26 Ar27 (j := (8 : Int32)) hin27 rfl (Sto.ofV Ar27 q27 O1 (Ins.self (pr18.ext OL25.2))) (g := (mkF m 61 #[.val (.int p1), .unset, .unset, .unset, .unset, .unset] [(.ref w_GAS_INDEXED_ENERGY), (.int (8 : Int32)), (.ref b1), (.ref b1)])) rfl rfl (hb hby at_61)
  have V28 : Arv Z h28 b1 k1 (.object "com/example/tarcal/tarcal/schedules/Basis") (12 : Int32) [(.ref w_DAYS), (.ref w_ENERGY), (.ref w_ON_PEAK_ENERGY), (.ref w_OFF_PEAK_ENERGY), (.ref w_BILLING_DEMAND_DAYS), (.ref w_METERED_DEMAND_DAYS), (.ref w_FIXTURE_DAYS), (.ref w_HIGHEST_HOUR_ENERGY), (.ref w_GAS_INDEXED_ENERGY), .null, .null, .null] .null := Arv.set Ar27 q27 S27 M27 Hs27 G27 rfl W28 8 rfl (Nat.le_of_ble_eq_true rfl)
  have KK28 : Keep h0 h28 [] := KK25.wr W28 (Or.inr sz_b1)
  have OL28 := OL25.wr W28 g_b1
  have N28 := Fr.snoc X28 N25 g_b1
  obtain ⟨T29, X29, e29, st29⟩ := getS2 X28 hx hZ hown (host := "") (Or.inl (wd22 hw)) Via.refl e28 (pr19.ext OL28.2) (g := (mkF m 65 #[.val (.int p1), .unset, .unset, .unset, .unset, .unset] [(.int (9 : Int32)), (.ref b1), (.ref b1)])) rfl (hb hby at_65)
  obtain ⟨cl30, Ar30, q30, S30, M30, Hs30, G30⟩ := V28
  have hin30 : ¬ ((9 : Int32) < 0 ∨ cl30.slots.size ≤ ((9 : Int32)).toNatClampNeg) := inb_of S30 ⟨by decide, by decide⟩
  obtain ⟨T31, h31, X31, e31, W31, st31⟩ := stR X29 hx hZ e29 Ar30 (j := (9 : Int32)) hin30 rfl (Sto.ofV Ar30 q30 O1 (Ins.self (pr20.ext OL28.2))) (g := (mkF m 68 #[.val (.int p1), .unset, .unset, .unset, .unset, .unset] [(.ref w_POOL_PRICED_ENERGY), (.int (9 : Int32)), (.ref b1), (.ref b1)])) rfl rfl (hb hby at_68)
  have V31 : Arv Z h31 b1 k1 (.object "com/example/tarcal/tarcal/schedules/Basis") (12 : Int32) [(.ref w_DAYS), (.ref w_ENERGY), (.ref w_ON_PEAK_ENERGY), (.ref w_OFF_PEAK_ENERGY), (.ref w_BILLING_DEMAND_DAYS), (.ref w_METERED_DEMAND_DAYS), (.ref w_FIXTURE_DAYS), (.ref w_HIGHEST_HOUR_ENERGY), (.ref w_GAS_INDEXED_ENERGY), (.ref w_POOL_PRICED_ENERGY), .null, .null] .null := Arv.set Ar30 q30 S30 M30 Hs30 G30 rfl W31 9 rfl (Nat.le_of_ble_eq_true rfl)
  have KK31 : Keep h0 h31 [] := KK28.wr W31 (Or.inr sz_b1)
  have OL31 := OL28.wr W31 g_b1
  have N31 := Fr.snoc X31 N28 g_b1
  obtain ⟨T32, X32, e32, st32⟩ := getS2 X31 hx hZ hown (host := "") (Or.inl (wd24 hw)) Via.refl e31 (pr21.ext OL31.2) (g := (mkF m 72 #[.val (.int p1), .unset, .unset, .unset, .unset, .unset] [(.int (10 : Int32)), (.ref b1), (.ref b1)])) rfl (hb hby at_72)
  obtain ⟨cl33, Ar33, q33, S33, M33, Hs33, G33⟩ := V31
  have hin33 : ¬ ((10 : Int32) < 0 ∨ cl33.slots.size ≤ ((10 : Int32)).toNatClampNeg) := inb_of S33 ⟨by decide, by decide⟩
  obtain ⟨T34, h34, X34, e34, W34, st34⟩ := stR X32 hx hZ e32 Ar33 (j := (10 : Int32)) hin33 rfl (Sto.ofV Ar33 q33 O1 (Ins.self (pr22.ext OL31.2))) (g := (mkF m 75 #[.val (.int p1), .unset, .unset, .unset, .unset, .unset] [(.ref w_ISO_COSTS), (.int (10 : Int32)), (.ref b1), (.ref b1)])) rfl rfl (hb hby at_75)
  have V34 : Arv Z h34 b1 k1 (.object "com/example/tarcal/tarcal/schedules/Basis") (12 : Int32) [(.ref w_DAYS), (.ref w_ENERGY), (.ref w_ON_PEAK_ENERGY), (.ref w_OFF_PEAK_ENERGY), (.ref w_BILLING_DEMAND_DAYS), (.ref w_METERED_DEMAND_DAYS), (.ref w_FIXTURE_DAYS), (.ref w_HIGHEST_HOUR_ENERGY), (.ref w_GAS_INDEXED_ENERGY), (.ref w_POOL_PRICED_ENERGY), (.ref w_ISO_COSTS), .null] .null := Arv.set Ar33 q33 S33 M33 Hs33 G33 rfl W34 10 rfl (Nat.le_of_ble_eq_true rfl)
  have KK34 : Keep h0 h34 [] := KK31.wr W34 (Or.inr sz_b1)
  have OL34 := OL31.wr W34 g_b1
  have N34 := Fr.snoc X34 N31 g_b1
  obtain ⟨T35, X35, e35, st35⟩ := getS2 X34 hx hZ hown (host := "") (Or.inl (wd26 hw)) Via.refl e34 (pr23.ext OL34.2) (g := (mkF m 79 #[.val (.int p1), .unset, .unset, .unset, .unset, .unset] [(.int (11 : Int32)), (.ref b1), (.ref b1)])) rfl (hb hby at_79)
  obtain ⟨cl36, Ar36, q36, S36, M36, Hs36, G36⟩ := V34
  have hin36 : ¬ ((11 : Int32) < 0 ∨ cl36.slots.size ≤ ((11 : Int32)).toNatClampNeg) := inb_of S36 ⟨by decide, by decide⟩
  obtain ⟨T37, h37, X37, e37, W37, st37⟩ := stR X35 hx hZ e35 Ar36 (j := (11 : Int32)) hin36 rfl (Sto.ofV Ar36 q36 O1 (Ins.self (pr24.ext OL34.2))) (g := (mkF m 82 #[.val (.int p1), .unset, .unset, .unset, .unset, .unset] [(.ref w_DISTRIBUTION_ACCESS_CHARGES), (.int (11 : Int32)), (.ref b1), (.ref b1)])) rfl rfl (hb hby at_82)
  have V37 : Arv Z h37 b1 k1 (.object "com/example/tarcal/tarcal/schedules/Basis") (12 : Int32) [(.ref w_DAYS), (.ref w_ENERGY), (.ref w_ON_PEAK_ENERGY), (.ref w_OFF_PEAK_ENERGY), (.ref w_BILLING_DEMAND_DAYS), (.ref w_METERED_DEMAND_DAYS), (.ref w_FIXTURE_DAYS), (.ref w_HIGHEST_HOUR_ENERGY), (.ref w_GAS_INDEXED_ENERGY), (.ref w_POOL_PRICED_ENERGY), (.ref w_ISO_COSTS), (.ref w_DISTRIBUTION_ACCESS_CHARGES)] .null := Arv.set Ar36 q36 S36 M36 Hs36 G36 rfl W37 11 rfl (Nat.le_of_ble_eq_true rfl)
  have KK37 : Keep h0 h37 [] := KK34.wr W37 (Or.inr sz_b1)
  have OL37 := OL34.wr W37 g_b1
  have N37 := Fr.snoc X37 N34 g_b1
  obtain ⟨cl38, Ar38, -, S38, -, Hs38, -⟩ := V37
  have hin38 : ¬ ((5 : Int32) < 0 ∨ cl38.slots.size ≤ ((5 : Int32)).toNatClampNeg) := inb_of S38 ⟨by decide, by decide⟩
  have hat38 : cl38.slots[((5 : Int32)).toNatClampNeg]? = some (.ref w_METERED_DEMAND_DAYS) := Hs38.at hin38 rfl
  obtain ⟨cq39, kq39, q39a, q39b, q39c⟩ := isOf hZ e37 (pr12.ext OL37.2)
  obtain ⟨_, _, ⟨T39, L39, k39, n39⟩, -, X39, ⟨Lc39, hQ39, l39, y39, z39⟩, st39⟩ := X37.virtualBack hx (y := (⟨"com/example/tarcal/tarcal/schedules/Basis", "perPeriod", "()Z"⟩ : MethodName)) (z := (⟨"com/example/tarcal/tarcal/schedules/Basis", "perPeriod", "()Z"⟩ : MethodName)) hown (mvT hZ (wd29 hw)) (mvT hZ (wd30 hw)) (notFace_of_selects (args := #[]) (mvT hZ (wd32 hw))) (mvT hZ (wd32 hw)) (mvT hZ (wd31 hw)) (by decide) (backOf (W := 0) (rm1_0 l Z a0 hw [] w_METERED_DEMAND_DAYS w_HIGHEST_HOUR_ENERGY w_GAS_INDEXED_ENERGY w_POOL_PRICED_ENERGY h37 n0 OL37 pr15 pr26 pr17 pr27 pr19 pr28) hZ (wd33 hw) (wd3 hw) (by decide) (by decide)) q39a q39c (g := (mkF m 122 #[.val (.int p1), .val (.ref b1), .val (.int (5 : Int32)), .val (.ref w_METERED_DEMAND_DAYS), .val (.int (0 : Int32)), .unset] [(.ref w_METERED_DEMAND_DAYS)])) rfl (by rw [hml]; rfl) (Steps.refl _) (argsL := []) (rest := []) (lenOf pd_0 rfl) rfl (by show 2 * 0 + _ ≤ _; exact Nat.le_of_eq rfl) (hb hby at_122) (fun _ _ => ⟨rfl, e37, (by decide : 1 + 0 ≤ _), (by decide : 12 + 0 ≤ _)⟩)
  dsimp only [Pt.U, Pt.locs, Pt.cells, Pt.slots] at X39 l39 y39 z39 st39 hQ39
  subst l39 y39 z39
  obtain ⟨rfl, Nq39, ec39⟩ := hQ39
  have N39 := Fr.app N37 Nq39
  obtain ⟨fs, hr, hrun, hended, hW, hsame⟩ := X39.leave (v := some (.int (1 : Int32))) (fun h => by rw [Bd.returns] at h; cases h)
  refine ⟨_, _, pre0 _ ?_, hrun, hended, _, _, rfl, ?_, ⟨_, rfl⟩, hW, hsame.mono (by decide) (by decide)⟩
  · show Steps p.tables e below (s₁.setTop (mkF m 0 #[.val (.int p1), .unset, .unset, .unset, .unset, .unset] [])) _
    refine XS.bipush X0.here hx rfl (hb hby at_0) ?_
    show Steps p.tables e below (s₁.setTop (mkF m 2 #[.val (.int p1), .unset, .unset, .unset, .unset, .unset] [(.int (12 : Int32))])) _
    refine st1 _ ?_
    show Steps p.tables e below (T1.setTop (mkF m 5 #[.val (.int p1), .unset, .unset, .unset, .unset, .unset] [(.ref b1)])) _
    refine XS.dup X1.here hx rfl (hb hby at_5) rfl rfl ?_
    show Steps p.tables e below (T1.setTop (mkF m 6 #[.val (.int p1), .unset, .unset, .unset, .unset, .unset] [(.ref b1), (.ref b1)])) _
    refine XS.iconst X1.here hx rfl (hb hby at_6) ?_
    show Steps p.tables e below (T1.setTop (mkF m 7 #[.val (.int p1), .unset, .unset, .unset, .unset, .unset] [(.int (0 : Int32)), (.ref b1), (.ref b1)])) _
    refine st2 _ ?_
    show Steps p.tables e below (T2.setTop (mkF m 10 #[.val (.int p1), .unset, .unset, .unset, .unset, .unset] [(.ref w_DAYS), (.int (0 : Int32)), (.ref b1), (.ref b1)])) _
    refine st4 _ ?_
    show Steps p.tables e below (T4.setTop (mkF m 11 #[.val (.int p1), .unset, .unset, .unset, .unset, .unset] [(.ref b1)])) _
    refine XS.dup X4.here hx rfl (hb hby at_11) rfl rfl ?_
    show Steps p.tables e below (T4.setTop (mkF m 12 #[.val (.int p1), .unset, .unset, .unset, .unset, .unset] [(.ref b1), (.ref b1)])) _
    refine XS.iconst X4.here hx rfl (hb hby at_12) ?_
    show Steps p.tables e below (T4.setTop (mkF m 13 #[.val (.int p1), .unset, .unset, .unset, .unset, .unset] [(.int (1 : Int32)), (.ref b1), (.ref b1)])) _
    refine st5 _ ?_
    show Steps p.tables e below (T5.setTop (mkF m 16 #[.val (.int p1), .unset, .unset, .unset, .unset, .unset] [(.ref w_ENERGY), (.int (1 : Int32)), (.ref b1), (.ref b1)])) _
    refine st7 _ ?_
    show Steps p.tables e below (T7.setTop (mkF m 17 #[.val (.int p1), .unset, .unset, .unset, .unset, .unset] [(.ref b1)])) _
    refine XS.dup X7.here hx rfl (hb hby at_17) rfl rfl ?_
    show Steps p.tables e below (T7.setTop (mkF m 18 #[.val (.int p1), .unset, .unset, .unset, .unset, .unset] [(.ref b1), (.ref b1)])) _
    refine XS.iconst X7.here hx rfl (hb hby at_18) ?_
    show Steps p.tables e below (T7.setTop (mkF m 19 #[.val (.int p1), .unset, .unset, .unset, .unset, .unset] [(.int (2 : Int32)), (.ref b1), (.ref b1)])) _
    refine st8 _ ?_
    show Steps p.tables e below (T8.setTop (mkF m 22 #[.val (.int p1), .unset, .unset, .unset, .unset, .unset] [(.ref w_ON_PEAK_ENERGY), (.int (2 : Int32)), (.ref b1), (.ref b1)])) _
    refine st10 _ ?_
    show Steps p.tables e below (T10.setTop (mkF m 23 #[.val (.int p1), .unset, .unset, .unset, .unset, .unset] [(.ref b1)])) _
    refine XS.dup X10.here hx rfl (hb hby at_23) rfl rfl ?_
    show Steps p.tables e below (T10.setTop (mkF m 24 #[.val (.int p1), .unset, .unset, .unset, .unset, .unset] [(.ref b1), (.ref b1)])) _
    refine XS.iconst X10.here hx rfl (hb hby at_24) ?_
    show Steps p.tables e below (T10.setTop (mkF m 25 #[.val (.int p1), .unset, .unset, .unset, .unset, .unset] [(.int (3 : Int32)), (.ref b1), (.ref b1)])) _
    refine st11 _ ?_
    show Steps p.tables e below (T11.setTop (mkF m 28 #[.val (.int p1), .unset, .unset, .unset, .unset, .unset] [(.ref w_OFF_PEAK_ENERGY), (.int (3 : Int32)), (.ref b1), (.ref b1)])) _
    refine st13 _ ?_
    show Steps p.tables e below (T13.setTop (mkF m 29 #[.val (.int p1), .unset, .unset, .unset, .unset, .unset] [(.ref b1)])) _
    refine XS.dup X13.here hx rfl (hb hby at_29) rfl rfl ?_
    show Steps p.tables e below (T13.setTop (mkF m 30 #[.val (.int p1), .unset, .unset, .unset, .unset, .unset] [(.ref b1), (.ref b1)])) _
    refine XS.iconst X13.here hx rfl (hb hby at_30) ?_
    show Steps p.tables e below (T13.setTop (mkF m 31 #[.val (.int p1), .unset, .unset, .unset, .unset, .unset] [(.int (4 : Int32)), (.ref b1), (.ref b1)])) _
    refine st14 _ ?_
    show Steps p.tables e below (T14.setTop (mkF m 34 #[.val (.int p1), .unset, .unset, .unset, .unset, .unset] [(.ref w_BILLING_DEMAND_DAYS), (.int (4 : Int32)), (.ref b1), (.ref b1)])) _
    refine st16 _ ?_
    show Steps p.tables e below (T16.setTop (mkF m 35 #[.val (.int p1), .unset, .unset, .unset, .unset, .unset] [(.ref b1)])) _
    refine XS.dup X16.here hx rfl (hb hby at_35) rfl rfl ?_
    show Steps p.tables e below (T16.setTop (mkF m 36 #[.val (.int p1), .unset, .unset, .unset, .unset, .unset] [(.ref b1), (.ref b1)])) _
    refine XS.iconst X16.here hx rfl (hb hby at_36) ?_
    show Steps p.tables e below (T16.setTop (mkF m 37 #[.val (.int p1), .unset, .unset, .unset, .unset, .unset] [(.int (5 : Int32)), (.ref b1), (.ref b1)])) _
    refine st17 _ ?_
    show Steps p.tables e below (T17.setTop (mkF m 40 #[.val (.int p1), .unset, .unset, .unset, .unset, .unset] [(.ref w_METERED_DEMAND_DAYS), (.int (5 : Int32)), (.ref b1), (.ref b1)])) _
    refine st19 _ ?_
    show Steps p.tables e below (T19.setTop (mkF m 41 #[.val (.int p1), .unset, .unset, .unset, .unset, .unset] [(.ref b1)])) _
    refine XS.dup X19.here hx rfl (hb hby at_41) rfl rfl ?_
    show Steps p.tables e below (T19.setTop (mkF m 42 #[.val (.int p1), .unset, .unset, .unset, .unset, .unset] [(.ref b1), (.ref b1)])) _
    refine XS.bipush X19.here hx rfl (hb hby at_42) ?_
    show Steps p.tables e below (T19.setTop (mkF m 44 #[.val (.int p1), .unset, .unset, .unset, .unset, .unset] [(.int (6 : Int32)), (.ref b1), (.ref b1)])) _
    refine st20 _ ?_
    show Steps p.tables e below (T20.setTop (mkF m 47 #[.val (.int p1), .unset, .unset, .unset, .unset, .unset] [(.ref w_FIXTURE_DAYS), (.int (6 : Int32)), (.ref b1), (.ref b1)])) _
    refine st22 _ ?_
    show Steps p.tables e below (T22.setTop (mkF m 48 #[.val (.int p1), .unset, .unset, .unset, .unset, .unset] [(.ref b1)])) _
    refine XS.dup X22.here hx rfl (hb hby at_48) rfl rfl ?_
    show Steps p.tables e below (T22.setTop (mkF m 49 #[.val (.int p1), .unset, .unset, .unset, .unset, .unset] [(.ref b1), (.ref b1)])) _
    refine XS.bipush X22.here hx rfl (hb hby at_49) ?_
    show Steps p.tables e below (T22.setTop (mkF m 51 #[.val (.int p1), .unset, .unset, .unset, .unset, .unset] [(.int (7 : Int32)), (.ref b1), (.ref b1)])) _
    refine st23 _ ?_
    show Steps p.tables e below (T23.setTop (mkF m 54 #[.val (.int p1), .unset, .unset, .unset, .unset, .unset] [(.ref w_HIGHEST_HOUR_ENERGY), (.int (7 : Int32)), (.ref b1), (.ref b1)])) _
    refine st25 _ ?_
    show Steps p.tables e below (T25.setTop (mkF m 55 #[.val (.int p1), .unset, .unset, .unset, .unset, .unset] [(.ref b1)])) _
    refine XS.dup X25.here hx rfl (hb hby at_55) rfl rfl ?_
    show Steps p.tables e below (T25.setTop (mkF m 56 #[.val (.int p1), .unset, .unset, .unset, .unset, .unset] [(.ref b1), (.ref b1)])) _
    refine XS.bipush X25.here hx rfl (hb hby at_56) ?_
    show Steps p.tables e below (T25.setTop (mkF m 58 #[.val (.int p1), .unset, .unset, .unset, .unset, .unset] [(.int (8 : Int32)), (.ref b1), (.ref b1)])) _
    refine st26 _ ?_
    show Steps p.tables e below (T26.setTop (mkF m 61 #[.val (.int p1), .unset, .unset, .unset, .unset, .unset] [(.ref w_GAS_INDEXED_ENERGY), (.int (8 : Int32)), (.ref b1), (.ref b1)])) _
    refine st28 _ ?_
    show Steps p.tables e below (T28.setTop (mkF m 62 #[.val (.int p1), .unset, .unset, .unset, .unset, .unset] [(.ref b1)])) _
    refine XS.dup X28.here hx rfl (hb hby at_62) rfl rfl ?_
    show Steps p.tables e below (T28.setTop (mkF m 63 #[.val (.int p1), .unset, .unset, .unset, .unset, .unset] [(.ref b1), (.ref b1)])) _
    refine XS.bipush X28.here hx rfl (hb hby at_63) ?_
    show Steps p.tables e below (T28.setTop (mkF m 65 #[.val (.int p1), .unset, .unset, .unset, .unset, .unset] [(.int (9 : Int32)), (.ref b1), (.ref b1)])) _
    refine st29 _ ?_
    show Steps p.tables e below (T29.setTop (mkF m 68 #[.val (.int p1), .unset, .unset, .unset, .unset, .unset] [(.ref w_POOL_PRICED_ENERGY), (.int (9 : Int32)), (.ref b1), (.ref b1)])) _
    refine st31 _ ?_
    show Steps p.tables e below (T31.setTop (mkF m 69 #[.val (.int p1), .unset, .unset, .unset, .unset, .unset] [(.ref b1)])) _
    refine XS.dup X31.here hx rfl (hb hby at_69) rfl rfl ?_
    show Steps p.tables e below (T31.setTop (mkF m 70 #[.val (.int p1), .unset, .unset, .unset, .unset, .unset] [(.ref b1), (.ref b1)])) _
    refine XS.bipush X31.here hx rfl (hb hby at_70) ?_
    show Steps p.tables e below (T31.setTop (mkF m 72 #[.val (.int p1), .unset, .unset, .unset, .unset, .unset] [(.int (10 : Int32)), (.ref b1), (.ref b1)])) _
    refine st32 _ ?_
    show Steps p.tables e below (T32.setTop (mkF m 75 #[.val (.int p1), .unset, .unset, .unset, .unset, .unset] [(.ref w_ISO_COSTS), (.int (10 : Int32)), (.ref b1), (.ref b1)])) _
    refine st34 _ ?_
    show Steps p.tables e below (T34.setTop (mkF m 76 #[.val (.int p1), .unset, .unset, .unset, .unset, .unset] [(.ref b1)])) _
    refine XS.dup X34.here hx rfl (hb hby at_76) rfl rfl ?_
    show Steps p.tables e below (T34.setTop (mkF m 77 #[.val (.int p1), .unset, .unset, .unset, .unset, .unset] [(.ref b1), (.ref b1)])) _
    refine XS.bipush X34.here hx rfl (hb hby at_77) ?_
    show Steps p.tables e below (T34.setTop (mkF m 79 #[.val (.int p1), .unset, .unset, .unset, .unset, .unset] [(.int (11 : Int32)), (.ref b1), (.ref b1)])) _
    refine st35 _ ?_
    show Steps p.tables e below (T35.setTop (mkF m 82 #[.val (.int p1), .unset, .unset, .unset, .unset, .unset] [(.ref w_DISTRIBUTION_ACCESS_CHARGES), (.int (11 : Int32)), (.ref b1), (.ref b1)])) _
    refine st37 _ ?_
    show Steps p.tables e below (T37.setTop (mkF m 83 #[.val (.int p1), .unset, .unset, .unset, .unset, .unset] [(.ref b1)])) _
    refine XS.astoreN X37.here hx rfl (hb hby at_83) rfl rfl (l' := #[.val (.int p1), .val (.ref b1), .unset, .unset, .unset, .unset]) rfl ?_
    show Steps p.tables e below (T37.setTop (mkF m 84 #[.val (.int p1), .val (.ref b1), .unset, .unset, .unset, .unset] [])) _
    refine XS.iloadN X37.here hx rfl (hb hby at_84) rfl ?_
    show Steps p.tables e below (T37.setTop (mkF m 85 #[.val (.int p1), .val (.ref b1), .unset, .unset, .unset, .unset] [(.int p1)])) _
    refine X37.ldcInt hx hown (mvT hZ (wd28 hw)) (g := (mkF m 85 #[.val (.int p1), .val (.ref b1), .unset, .unset, .unset, .unset] [(.int p1)])) rfl (hb hby at_85) _ ?_
    show Steps p.tables e below (T37.setTop (mkF m 87 #[.val (.int p1), .val (.ref b1), .unset, .unset, .unset, .unset] [(.int (2147483647 : Int32)), (.int p1)])) _
    refine XS.iand X37.here hx rfl (hb hby at_87) rfl ?_
    show Steps p.tables e below (T37.setTop (mkF m 88 #[.val (.int p1), .val (.ref b1), .unset, .unset, .unset, .unset] [(.int (p1 &&& (2147483647 : Int32)))])) _
    refine XS.bipush X37.here hx rfl (hb hby at_88) ?_
    show Steps p.tables e below (T37.setTop (mkF m 90 #[.val (.int p1), .val (.ref b1), .unset, .unset, .unset, .unset] [(.int (12 : Int32)), (.int (p1 &&& (2147483647 : Int32)))])) _
    refine iremM X37 hx rfl (hb hby at_90) rfl (by decide) ?_
    show Steps p.tables e below (T37.setTop (mkF m 91 #[.val (.int p1), .val (.ref b1), .unset, .unset, .unset, .unset] [(.int ((p1 &&& (2147483647 : Int32)) % (12 : Int32)))])) _
    rw [pr25]
    show Steps p.tables e below (T37.setTop (mkF m 91 #[.val (.int p1), .val (.ref b1), .unset, .unset, .unset, .unset] [(.int (5 : Int32))])) _
    refine XS.istoreN X37.here hx rfl (hb hby at_91) rfl (l' := #[.val (.int p1), .val (.ref b1), .val (.int (5 : Int32)), .unset, .unset, .unset]) rfl ?_
    show Steps p.tables e below (T37.setTop (mkF m 92 #[.val (.int p1), .val (.ref b1), .val (.int (5 : Int32)), .unset, .unset, .unset] [])) _
    refine XS.aloadN X37.here hx rfl (hb hby at_92) rfl rfl ?_
    show Steps p.tables e below (T37.setTop (mkF m 93 #[.val (.int p1), .val (.ref b1), .val (.int (5 : Int32)), .unset, .unset, .unset] [(.ref b1)])) _
    refine XS.iloadN X37.here hx rfl (hb hby at_93) rfl ?_
    show Steps p.tables e below (T37.setTop (mkF m 94 #[.val (.int p1), .val (.ref b1), .val (.int (5 : Int32)), .unset, .unset, .unset] [(.int (5 : Int32)), (.ref b1)])) _
    refine X37.aaload hx (j := (5 : Int32)) (v := (.ref w_METERED_DEMAND_DAYS)) (by rw [e37]; exact Ar38.1) (State.isArrayOf_alike hZ.alike Ar38.2.1) rfl Ar38.2.2 hin38 hat38 (g := (mkF m 94 #[.val (.int p1), .val (.ref b1), .val (.int (5 : Int32)), .unset, .unset, .unset] [(.int (5 : Int32)), (.ref b1)])) rfl rfl (hb hby at_94) _ ?_
    show Steps p.tables e below (T37.setTop (mkF m 95 #[.val (.int p1), .val (.ref b1), .val (.int (5 : Int32)), .unset, .unset, .unset] [(.ref w_METERED_DEMAND_DAYS)])) _
    refine XS.astoreN X37.here hx rfl (hb hby at_95) rfl rfl (l' := #[.val (.int p1), .val (.ref b1), .val (.int (5 : Int32)), .val (.ref w_METERED_DEMAND_DAYS), .unset, .unset]) rfl ?_
    show Steps p.tables e below (T37.setTop (mkF m 96 #[.val (.int p1), .val (.ref b1), .val (.int (5 : Int32)), .val (.ref w_METERED_DEMAND_DAYS), .unset, .unset] [])) _
    refine XS.iloadN X37.here hx rfl (hb hby at_96) rfl ?_
    show Steps p.tables e below (T37.setTop (mkF m 97 #[.val (.int p1), .val (.ref b1), .val (.int (5 : Int32)), .val (.ref w_METERED_DEMAND_DAYS), .unset, .unset] [(.int (5 : Int32))])) _
    refine XS.bipush X37.here hx rfl (hb hby at_97) ?_
    show Steps p.tables e below (T37.setTop (mkF m 99 #[.val (.int p1), .val (.ref b1), .val (.int (5 : Int32)), .val (.ref w_METERED_DEMAND_DAYS), .unset, .unset] [(.int (7 : Int32)), (.int (5 : Int32))])) _
    refine XS.icmpNo X37.here hx rfl (hb hby at_99) rfl (feq (by decide : ¬ ((5 : Int32) = (7 : Int32)))).1 ?_
    show Steps p.tables e below (T37.setTop (mkF m 102 #[.val (.int p1), .val (.ref b1), .val (.int (5 : Int32)), .val (.ref w_METERED_DEMAND_DAYS), .unset, .unset] [])) _
    refine XS.iloadN X37.here hx rfl (hb hby at_102) rfl ?_
    show Steps p.tables e below (T37.setTop (mkF m 103 #[.val (.int p1), .val (.ref b1), .val (.int (5 : Int32)), .val (.ref w_METERED_DEMAND_DAYS), .unset, .unset] [(.int (5 : Int32))])) _
    refine XS.bipush X37.here hx rfl (hb hby at_103) ?_
    show Steps p.tables e below (T37.setTop (mkF m 105 #[.val (.int p1), .val (.ref b1), .val (.int (5 : Int32)), .val (.ref w_METERED_DEMAND_DAYS), .unset, .unset] [(.int (8 : Int32)), (.int (5 : Int32))])) _
    refine XS.icmpNo X37.here hx rfl (hb hby at_105) rfl (feq (by decide : ¬ ((5 : Int32) = (8 : Int32)))).1 ?_
    show Steps p.tables e below (T37.setTop (mkF m 108 #[.val (.int p1), .val (.ref b1), .val (.int (5 : Int32)), .val (.ref w_METERED_DEMAND_DAYS), .unset, .unset] [])) _
    refine XS.iloadN X37.here hx rfl (hb hby at_108) rfl ?_
    show Steps p.tables e below (T37.setTop (mkF m 109 #[.val (.int p1), .val (.ref b1), .val (.int (5 : Int32)), .val (.ref w_METERED_DEMAND_DAYS), .unset, .unset] [(.int (5 : Int32))])) _
    refine XS.bipush X37.here hx rfl (hb hby at_109) ?_
    show Steps p.tables e below (T37.setTop (mkF m 111 #[.val (.int p1), .val (.ref b1), .val (.int (5 : Int32)), .val (.ref w_METERED_DEMAND_DAYS), .unset, .unset] [(.int (9 : Int32)), (.int (5 : Int32))])) _
    refine XS.icmpYes X37.here hx rfl (pc0 := 111) (pc' := 118) rfl (hb hby at_111) rfl (feq (by decide : ¬ ((5 : Int32) = (9 : Int32)))).2 (by decide) (by decide) ?_
    show Steps p.tables e below (T37.setTop (mkF m 118 #[.val (.int p1), .val (.ref b1), .val (.int (5 : Int32)), .val (.ref w_METERED_DEMAND_DAYS), .unset, .unset] [])) _
    refine XS.iconst X37.here hx rfl (hb hby at_118) ?_
    show Steps p.tables e below (T37.setTop (mkF m 119 #[.val (.int p1), .val (.ref b1), .val (.int (5 : Int32)), .val (.ref w_METERED_DEMAND_DAYS), .unset, .unset] [(.int (0 : Int32))])) _
    refine XS.istore X37.here hx rfl (hb hby at_119) rfl (l' := #[.val (.int p1), .val (.ref b1), .val (.int (5 : Int32)), .val (.ref w_METERED_DEMAND_DAYS), .val (.int (0 : Int32)), .unset]) rfl ?_
    show Steps p.tables e below (T37.setTop (mkF m 121 #[.val (.int p1), .val (.ref b1), .val (.int (5 : Int32)), .val (.ref w_METERED_DEMAND_DAYS), .val (.int (0 : Int32)), .unset] [])) _
    refine XS.aloadN X37.here hx rfl (hb hby at_121) rfl rfl ?_
    show Steps p.tables e below (T37.setTop (mkF m 122 #[.val (.int p1), .val (.ref b1), .val (.int (5 : Int32)), .val (.ref w_METERED_DEMAND_DAYS), .val (.int (0 : Int32)), .unset] [(.ref w_METERED_DEMAND_DAYS)])) _
    refine st39.trans ?_
    show Steps p.tables e below (T39.setTop (mkF m 125 #[.val (.int p1), .val (.ref b1), .val (.int (5 : Int32)), .val (.ref w_METERED_DEMAND_DAYS), .val (.int (0 : Int32)), .unset] [(.int (0 : Int32))])) _
    refine XS.istore X39.here hx rfl (hb hby at_125) rfl (l' := #[.val (.int p1), .val (.ref b1), .val (.int (5 : Int32)), .val (.ref w_METERED_DEMAND_DAYS), .val (.int (0 : Int32)), .val (.int (0 : Int32))]) rfl ?_
    show Steps p.tables e below (T39.setTop (mkF m 127 #[.val (.int p1), .val (.ref b1), .val (.int (5 : Int32)), .val (.ref w_METERED_DEMAND_DAYS), .val (.int (0 : Int32)), .val (.int (0 : Int32))] [])) _
    refine XS.iload X39.here hx rfl (hb hby at_127) rfl ?_
    show Steps p.tables e below (T39.setTop (mkF m 129 #[.val (.int p1), .val (.ref b1), .val (.int (5 : Int32)), .val (.ref w_METERED_DEMAND_DAYS), .val (.int (0 : Int32)), .val (.int (0 : Int32))] [(.int (0 : Int32))])) _
    refine XS.iload X39.here hx rfl (hb hby at_129) rfl ?_
    show Steps p.tables e below (T39.setTop (mkF m 131 #[.val (.int p1), .val (.ref b1), .val (.int (5 : Int32)), .val (.ref w_METERED_DEMAND_DAYS), .val (.int (0 : Int32)), .val (.int (0 : Int32))] [(.int (0 : Int32)), (.int (0 : Int32))])) _
    refine XS.icmpYes X39.here hx rfl (pc0 := 131) (pc' := 136) rfl (hb hby at_131) rfl (teq (rfl : (0 : Int32) = (0 : Int32))).1 (by decide) (by decide) ?_
    show Steps p.tables e below (T39.setTop (mkF m 136 #[.val (.int p1), .val (.ref b1), .val (.int (5 : Int32)), .val (.ref w_METERED_DEMAND_DAYS), .val (.int (0 : Int32)), .val (.int (0 : Int32))] [])) _
    refine XS.iload X39.here hx rfl (hb hby at_136) rfl ?_
    show Steps p.tables e below (T39.setTop (mkF m 138 #[.val (.int p1), .val (.ref b1), .val (.int (5 : Int32)), .val (.ref w_METERED_DEMAND_DAYS), .val (.int (0 : Int32)), .val (.int (0 : Int32))] [(.int (0 : Int32))])) _
    refine XS.ifYes X39.here hx rfl (pc0 := 138) (pc' := 164) rfl (hb hby at_138) rfl ((if0 _ _).trans (teq (rfl : (0 : Int32) = (0 : Int32))).1) (by decide) (by decide) ?_
    show Steps p.tables e below (T39.setTop (mkF m 164 #[.val (.int p1), .val (.ref b1), .val (.int (5 : Int32)), .val (.ref w_METERED_DEMAND_DAYS), .val (.int (0 : Int32)), .val (.int (0 : Int32))] [])) _
    refine XS.iconst X39.here hx rfl (hb hby at_164) ?_
    show Steps p.tables e below (T39.setTop (mkF m 165 #[.val (.int p1), .val (.ref b1), .val (.int (5 : Int32)), .val (.ref w_METERED_DEMAND_DAYS), .val (.int (0 : Int32)), .val (.int (0 : Int32))] [(.int (1 : Int32))])) _
    exact retN X39 hx (t := .boolean) Bd.returns (by simp) (hb hby at_165) hr
  · exact ⟨rfl, N39⟩
set_option maxRecDepth 65536 in
set_option maxHeartbeats 40000000 in
theorem rm0_6 (l : Launch) (Z : State) (a0 : Array Value) (hw : ∀ d ∈ tables_1, d.before a0 Z = true) (ws : List Jvm.Cond) (p1 : Int32) (w_DAYS : Addr) (w_ENERGY : Addr) (w_ON_PEAK_ENERGY : Addr) (w_OFF_PEAK_ENERGY : Addr) (w_BILLING_DEMAND_DAYS : Addr) (w_METERED_DEMAND_DAYS : Addr) (w_FIXTURE_DAYS : Addr) (w_HIGHEST_HOUR_ENERGY : Addr) (w_GAS_INDEXED_ENERGY : Addr) (w_POOL_PRICED_ENERGY : Addr) (w_ISO_COSTS : Addr) (w_DISTRIBUTION_ACCESS_CHARGES : Addr) (h0 : Heap) (n0 : Nat) (OL0 : Old Z n0 h0) (pr1 : Sta Z Z.heap "com/example/tarcal/tarcal/schedules/Basis" "DAYS" "Lcom/example/tarcal/tarcal/schedules/Basis;" (.ref w_DAYS)) (pr2 : Exa Z Z.heap w_DAYS "com/example/tarcal/tarcal/schedules/Basis") (pr3 : Sta Z Z.heap "com/example/tarcal/tarcal/schedules/Basis" "ENERGY" "Lcom/example/tarcal/tarcal/schedules/Basis;" (.ref w_ENERGY)) (pr4 : Exa Z Z.heap w_ENERGY "com/example/tarcal/tarcal/schedules/Basis") (pr5 : Sta Z Z.heap "com/example/tarcal/tarcal/schedules/Basis" "ON_PEAK_ENERGY" "Lcom/example/tarcal/tarcal/schedules/Basis;" (.ref w_ON_PEAK_ENERGY)) (pr6 : Exa Z Z.heap w_ON_PEAK_ENERGY "com/example/tarcal/tarcal/schedules/Basis") (pr7 : Sta Z Z.heap "com/example/tarcal/tarcal/schedules/Basis" "OFF_PEAK_ENERGY" "Lcom/example/tarcal/tarcal/schedules/Basis;" (.ref w_OFF_PEAK_ENERGY)) (pr8 : Exa Z Z.heap w_OFF_PEAK_ENERGY "com/example/tarcal/tarcal/schedules/Basis") (pr9 : Sta Z Z.heap "com/example/tarcal/tarcal/schedules/Basis" "BILLING_DEMAND_DAYS" "Lcom/example/tarcal/tarcal/schedules/Basis;" (.ref w_BILLING_DEMAND_DAYS)) (pr10 : Exa Z Z.heap w_BILLING_DEMAND_DAYS "com/example/tarcal/tarcal/schedules/Basis") (pr11 : Sta Z Z.heap "com/example/tarcal/tarcal/schedules/Basis" "METERED_DEMAND_DAYS" "Lcom/example/tarcal/tarcal/schedules/Basis;" (.ref w_METERED_DEMAND_DAYS)) (pr12 : Exa Z Z.heap w_METERED_DEMAND_DAYS "com/example/tarcal/tarcal/schedules/Basis") (pr13 : Sta Z Z.heap "com/example/tarcal/tarcal/schedules/Basis" "FIXTURE_DAYS" "Lcom/example/tarcal/tarcal/schedules/Basis;" (.ref w_FIXTURE_DAYS)) (pr14 : Exa Z Z.heap w_FIXTURE_DAYS "com/example/tarcal/tarcal/schedules/Basis") (pr15 : Sta Z Z.heap "com/example/tarcal/tarcal/schedules/Basis" "HIGHEST_HOUR_ENERGY" "Lcom/example/tarcal/tarcal/schedules/Basis;" (.ref w_HIGHEST_HOUR_ENERGY)) (pr16 : Exa Z Z.heap w_HIGHEST_HOUR_ENERGY "com/example/tarcal/tarcal/schedules/Basis") (pr17 : Sta Z Z.heap "com/example/tarcal/tarcal/schedules/Basis" "GAS_INDEXED_ENERGY" "Lcom/example/tarcal/tarcal/schedules/Basis;" (.ref w_GAS_INDEXED_ENERGY)) (pr18 : Exa Z Z.heap w_GAS_INDEXED_ENERGY "com/example/tarcal/tarcal/schedules/Basis") (pr19 : Sta Z Z.heap "com/example/tarcal/tarcal/schedules/Basis" "POOL_PRICED_ENERGY" "Lcom/example/tarcal/tarcal/schedules/Basis;" (.ref w_POOL_PRICED_ENERGY)) (pr20 : Exa Z Z.heap w_POOL_PRICED_ENERGY "com/example/tarcal/tarcal/schedules/Basis") (pr21 : Sta Z Z.heap "com/example/tarcal/tarcal/schedules/Basis" "ISO_COSTS" "Lcom/example/tarcal/tarcal/schedules/Basis;" (.ref w_ISO_COSTS)) (pr22 : Exa Z Z.heap w_ISO_COSTS "com/example/tarcal/tarcal/schedules/Basis") (pr23 : Sta Z Z.heap "com/example/tarcal/tarcal/schedules/Basis" "DISTRIBUTION_ACCESS_CHARGES" "Lcom/example/tarcal/tarcal/schedules/Basis;" (.ref w_DISTRIBUTION_ACCESS_CHARGES)) (pr24 : Exa Z Z.heap w_DISTRIBUTION_ACCESS_CHARGES "com/example/tarcal/tarcal/schedules/Basis") (pr25 : ((p1 &&& (2147483647 : Int32)) % (12 : Int32)) = (6 : Int32)) (pr26 : w_FIXTURE_DAYS ≠ w_HIGHEST_HOUR_ENERGY) (pr27 : w_FIXTURE_DAYS ≠ w_GAS_INDEXED_ENERGY) (pr28 : w_FIXTURE_DAYS ≠ w_POOL_PRICED_ENERGY) :
    MetFree l x (head1 (Jvm.Cond.code x code maxLocals ret :: ws) room_1) (fun a U => a = #[(.int p1)] ∧ Z.Warmed39 U.vm ∧ U.heap = h0) (fun _ _ _ _ _ => True) (fun _ U o U' => ∃ v L, o = .returned v ∧ Q0 n0 v L ∧ FrameEnd U o U' L 16 128) := by
  refine MetFree.of_bodySF (plainFor_of_name pn_1) hisR ?_
  intro p e s m args below meth c s₁ Bd hml0 hP hK
  obtain ⟨rfl, hZ, hh⟩ := hP
  have hx := Bd.exec
  have hby := Bd.bytes
  have hml : c.maxLocals = 6 := hml0
  have hown : s.vm.findClass "com/example/tarcal/tarcal/schedules/BasisPerPeriodPinLaw" = some m.cls := findClass_of_methodNamed Bd.named
  have hnm := (name_of_methodNamed Bd.named Bd.method).1
  have X0 : Stand p l e room_1 s m #[(.int p1)] below meth c s₁ [] 0 0 := Stand.of_body Bd
  have e0 : s₁.heap = h0 := by rw [← hh, Bd.state]; rfl
  have N0 := Fr.nil n0
  have pre0 : ∀ t, Steps p.tables e below (s₁.setTop (mkF m 0 #[.val (.int p1), .unset, .unset, .unset, .unset, .unset] [])) t → Steps p.tables e below (s₁.setTop (entryFrame m #[(.int p1)] maxLocals)) t := fun t k => castTop (ef_0_1 m p1) k
  obtain ⟨T1, h1, k1, X1, e1, E1, A1, O1, st1⟩ := newR X0 hx hZ hown (wd0 hw) (wd1 hw) e0 (g := (mkF m 2 #[.val (.int p1), .unset, .unset, .unset, .unset, .unset] [(.int (12 : Int32))])) rfl (hb hby at_2) rfl (by decide) (cap := 12) (by decide) (by decide) (by decide) (by decide)
  obtain ⟨b1, g1⟩ : ∃ z, z = h0.size := ⟨_, rfl⟩
  rw [← g1] at A1 st1
  have V1 : Arv Z h1 b1 k1 (.object "com/example/tarcal/tarcal/schedules/Basis") (12 : Int32) [.null, .null, .null, .null, .null, .null, .null, .null, .null, .null, .null, .null] .null := (Arv.new A1 (by decide)).pad (pad_rep [] .null 12)
  have g_b1 : n0 ≤ b1 := (Nat.le_trans (Nat.le_trans (Nat.le_of_eq OL0.1.symm) OL0.2.1) (Nat.le_of_eq g1.symm))
  have sz_b1 : h0.size ≤ b1 := (Nat.le_trans (Keep.refl h0 []).1 (Nat.le_of_eq g1.symm))
  have KK1 : Keep h0 h1 [] := (Keep.refl h0 []).ext E1
  have OL1 := OL0.ext E1
  obtain ⟨T2, X2, e2, st2⟩ := getS2 X1 hx hZ hown (host := "") (Or.inl (wd2 hw)) Via.refl e1 (pr1.ext OL1.2) (g := (mkF m 7 #[.val (.int p1), .unset, .unset, .unset, .unset, .unset] [(.int (0 : Int32)), (.ref b1), (.ref b1)])) rfl (hb hby at_7)
  obtain ⟨cl3, Ar3, q3, S3, M3, Hs3, G3⟩ := V1
  have hin3 : ¬ ((0 : Int32) < 0 ∨ cl3.slots.size ≤ ((0 : Int32)).toNatClampNeg) := inb_of S3 ⟨by decide, by decide⟩
  obtain ⟨T4, h4, X4, e4, W4, st4⟩ := stR X2 hx hZ e2 Ar3 (j := (0 : Int32)) hin3 rfl (Sto.ofV Ar3 q3 O1 (Ins.self (pr2.ext OL1.2))) (g := (mkF m 10 #[.val (.int p1), .unset, .unset, .unset, .unset, .unset] [(.ref w_DAYS), (.int (0 : Int32)), (.ref b1), (.ref b1)])) rfl rfl (hb hby at_10)
  have V4 : Arv Z h4 b1 k1 (.object "com/example/tarcal/tarcal/schedules/Basis") (12 : Int32) [(.ref w_DAYS), .null, .null, .null, .null, .null, .null, .null, .null, .null, .null, .null] .null := Arv.set Ar3 q3 S3 M3 Hs3 G3 rfl W4 0 rfl (Nat.le_of_ble_eq_true rfl)
  have KK4 : Keep h0 h4 [] := KK1.wr W4 (Or.inr sz_b1)
  have OL4 := OL1.wr W4 g_b1
  have N4 := Fr.snoc X4 N0 g_b1
  obtain ⟨T5, X5, e5, st5⟩ := getS2 X4 hx hZ hown (host := "") (Or.inl (wd6 hw)) Via.refl e4 (pr3.ext OL4.2) (g := (mkF m 13 #[.val (.int p1), .unset, .unset, .unset, .unset, .unset] [(.int (1 : Int32)), (.ref b1), (.ref b1)])) rfl (hb hby at_13)
  obtain ⟨cl6, Ar6, q6, S6, M6, Hs6, G6⟩ := V4
  have hin6 : ¬ ((1 : Int32) < 0 ∨ cl6.slots.size ≤ ((1 : Int32)).toNatClampNeg) := inb_of S6 ⟨by decide, by decide⟩
  obtain ⟨T7, h7, X7, e7, W7, st7⟩ := stR X5 hx hZ e5 Ar6 (j := (1 : Int32)) hin6 rfl (Sto.ofV Ar6 q6 O1 (Ins.self (pr4.ext OL4.2))) (g := (mkF m 16 #[.val (.int p1), .unset, .unset, .unset, .unset, .unset] [(.ref w_ENERGY), (.int (1 : Int32)), (.ref b1), (.ref b1)])) rfl rfl (hb hby at_16)
  have V7 : Arv Z h7 b1 k1 (.object "com/example/tarcal/tarcal/schedules/Basis") (12 : Int32) [(.ref w_DAYS), (.ref w_ENERGY), .null, .null, .null, .null, .null, .null, .null, .null, .null, .null] .null := Arv.set Ar6 q6 S6 M6 Hs6 G6 rfl W7 1 rfl (Nat.le_of_ble_eq_true rfl)
  have KK7 : Keep h0 h7 [] := KK4.wr W7 (Or.inr sz_b1)
  have OL7 := OL4.wr W7 g_b1
  have N7 := Fr.snoc X7 N4 g_b1
  obtain ⟨T8, X8, e8, st8⟩ := getS2 X7 hx hZ hown (host := "") (Or.inl (wd8 hw)) Via.refl e7 (pr5.ext OL7.2) (g := (mkF m 19 #[.val (.int p1), .unset, .unset, .unset, .unset, .unset] [(.int (2 : Int32)), (.ref b1), (.ref b1)])) rfl (hb hby at_19)
  obtain ⟨cl9, Ar9, q9, S9, M9, Hs9, G9⟩ := V7
  have hin9 : ¬ ((2 : Int32) < 0 ∨ cl9.slots.size ≤ ((2 : Int32)).toNatClampNeg) := inb_of S9 ⟨by decide, by decide⟩
  obtain ⟨T10, h10, X10, e10, W10, st10⟩ := stR X8 hx hZ e8 Ar9 (j := (2 : Int32)) hin9 rfl (Sto.ofV Ar9 q9 O1 (Ins.self (pr6.ext OL7.2))) (g := (mkF m 22 #[.val (.int p1), .unset, .unset, .unset, .unset, .unset] [(.ref w_ON_PEAK_ENERGY), (.int (2 : Int32)), (.ref b1), (.ref b1)])) rfl rfl (hb hby at_22)
  have V10 : Arv Z h10 b1 k1 (.object "com/example/tarcal/tarcal/schedules/Basis") (12 : Int32) [(.ref w_DAYS), (.ref w_ENERGY), (.ref w_ON_PEAK_ENERGY), .null, .null, .null, .null, .null, .null, .null, .null, .null] .null := Arv.set Ar9 q9 S9 M9 Hs9 G9 rfl W10 2 rfl (Nat.le_of_ble_eq_true rfl)
  have KK10 : Keep h0 h10 [] := KK7.wr W10 (Or.inr sz_b1)
  have OL10 := OL7.wr W10 g_b1
  have N10 := Fr.snoc X10 N7 g_b1
  obtain ⟨T11, X11, e11, st11⟩ := getS2 X10 hx hZ hown (host := "") (Or.inl (wd10 hw)) Via.refl e10 (pr7.ext OL10.2) (g := (mkF m 25 #[.val (.int p1), .unset, .unset, .unset, .unset, .unset] [(.int (3 : Int32)), (.ref b1), (.ref b1)])) rfl (hb hby at_25)
  obtain ⟨cl12, Ar12, q12, S12, M12, Hs12, G12⟩ := V10
  have hin12 : ¬ ((3 : Int32) < 0 ∨ cl12.slots.size ≤ ((3 : Int32)).toNatClampNeg) := inb_of S12 ⟨by decide, by decide⟩
  obtain ⟨T13, h13, X13, e13, W13, st13⟩ := stR X11 hx hZ e11 Ar12 (j := (3 : Int32)) hin12 rfl (Sto.ofV Ar12 q12 O1 (Ins.self (pr8.ext OL10.2))) (g := (mkF m 28 #[.val (.int p1), .unset, .unset, .unset, .unset, .unset] [(.ref w_OFF_PEAK_ENERGY), (.int (3 : Int32)), (.ref b1), (.ref b1)])) rfl rfl (hb hby at_28)
  have V13 : Arv Z h13 b1 k1 (.object "com/example/tarcal/tarcal/schedules/Basis") (12 : Int32) [(.ref w_DAYS), (.ref w_ENERGY), (.ref w_ON_PEAK_ENERGY), (.ref w_OFF_PEAK_ENERGY), .null, .null, .null, .null, .null, .null, .null, .null] .null := Arv.set Ar12 q12 S12 M12 Hs12 G12 rfl W13 3 rfl (Nat.le_of_ble_eq_true rfl)
  have KK13 : Keep h0 h13 [] := KK10.wr W13 (Or.inr sz_b1)
  have OL13 := OL10.wr W13 g_b1
  have N13 := Fr.snoc X13 N10 g_b1
  obtain ⟨T14, X14, e14, st14⟩ := getS2 X13 hx hZ hown (host := "") (Or.inl (wd12 hw)) Via.refl e13 (pr9.ext OL13.2) (g := (mkF m 31 #[.val (.int p1), .unset, .unset, .unset, .unset, .unset] [(.int (4 : Int32)), (.ref b1), (.ref b1)])) rfl (hb hby at_31)
  obtain ⟨cl15, Ar15, q15, S15, M15, Hs15, G15⟩ := V13
  have hin15 : ¬ ((4 : Int32) < 0 ∨ cl15.slots.size ≤ ((4 : Int32)).toNatClampNeg) := inb_of S15 ⟨by decide, by decide⟩
  obtain ⟨T16, h16, X16, e16, W16, st16⟩ := stR X14 hx hZ e14 Ar15 (j := (4 : Int32)) hin15 rfl (Sto.ofV Ar15 q15 O1 (Ins.self (pr10.ext OL13.2))) (g := (mkF m 34 #[.val (.int p1), .unset, .unset, .unset, .unset, .unset] [(.ref w_BILLING_DEMAND_DAYS), (.int (4 : Int32)), (.ref b1), (.ref b1)])) rfl rfl (hb hby at_34)
  have V16 : Arv Z h16 b1 k1 (.object "com/example/tarcal/tarcal/schedules/Basis") (12 : Int32) [(.ref w_DAYS), (.ref w_ENERGY), (.ref w_ON_PEAK_ENERGY), (.ref w_OFF_PEAK_ENERGY), (.ref w_BILLING_DEMAND_DAYS), .null, .null, .null, .null, .null, .null, .null] .null := Arv.set Ar15 q15 S15 M15 Hs15 G15 rfl W16 4 rfl (Nat.le_of_ble_eq_true rfl)
  have KK16 : Keep h0 h16 [] := KK13.wr W16 (Or.inr sz_b1)
  have OL16 := OL13.wr W16 g_b1
  have N16 := Fr.snoc X16 N13 g_b1
  obtain ⟨T17, X17, e17, st17⟩ := getS2 X16 hx hZ hown (host := "") (Or.inl (wd14 hw)) Via.refl e16 (pr11.ext OL16.2) (g := (mkF m 37 #[.val (.int p1), .unset, .unset, .unset, .unset, .unset] [(.int (5 : Int32)), (.ref b1), (.ref b1)])) rfl (hb hby at_37)
  obtain ⟨cl18, Ar18, q18, S18, M18, Hs18, G18⟩ := V16
  have hin18 : ¬ ((5 : Int32) < 0 ∨ cl18.slots.size ≤ ((5 : Int32)).toNatClampNeg) := inb_of S18 ⟨by decide, by decide⟩
  obtain ⟨T19, h19, X19, e19, W19, st19⟩ := stR X17 hx hZ e17 Ar18 (j := (5 : Int32)) hin18 rfl (Sto.ofV Ar18 q18 O1 (Ins.self (pr12.ext OL16.2))) (g := (mkF m 40 #[.val (.int p1), .unset, .unset, .unset, .unset, .unset] [(.ref w_METERED_DEMAND_DAYS), (.int (5 : Int32)), (.ref b1), (.ref b1)])) rfl rfl (hb hby at_40)
  have V19 : Arv Z h19 b1 k1 (.object "com/example/tarcal/tarcal/schedules/Basis") (12 : Int32) [(.ref w_DAYS), (.ref w_ENERGY), (.ref w_ON_PEAK_ENERGY), (.ref w_OFF_PEAK_ENERGY), (.ref w_BILLING_DEMAND_DAYS), (.ref w_METERED_DEMAND_DAYS), .null, .null, .null, .null, .null, .null] .null := Arv.set Ar18 q18 S18 M18 Hs18 G18 rfl W19 5 rfl (Nat.le_of_ble_eq_true rfl)
  have KK19 : Keep h0 h19 [] := KK16.wr W19 (Or.inr sz_b1)
  have OL19 := OL16.wr W19 g_b1
  have N19 := Fr.snoc X19 N16 g_b1
  obtain ⟨T20, X20, e20, st20⟩ := getS2 X19 hx hZ hown (host := "") (Or.inl (wd16 hw)) Via.refl e19 (pr13.ext OL19.2) (g := (mkF m 44 #[.val (.int p1), .unset, .unset, .unset, .unset, .unset] [(.int (6 : Int32)), (.ref b1), (.ref b1)])) rfl (hb hby at_44)
  obtain ⟨cl21, Ar21, q21, S21, M21, Hs21, G21⟩ := V19
  have hin21 : ¬ ((6 : Int32) < 0 ∨ cl21.slots.size ≤ ((6 : Int32)).toNatClampNeg) := inb_of S21 ⟨by decide, by decide⟩
  obtain ⟨T22, h22, X22, e22, W22, st22⟩ := stR X20 hx hZ e20 Ar21 (j := (6 : Int32)) hin21 rfl (Sto.ofV Ar21 q21 O1 (Ins.self (pr14.ext OL19.2))) (g := (mkF m 47 #[.val (.int p1), .unset, .unset, .unset, .unset, .unset] [(.ref w_FIXTURE_DAYS), (.int (6 : Int32)), (.ref b1), (.ref b1)])) rfl rfl (hb hby at_47)
  have V22 : Arv Z h22 b1 k1 (.object "com/example/tarcal/tarcal/schedules/Basis") (12 : Int32) [(.ref w_DAYS), (.ref w_ENERGY), (.ref w_ON_PEAK_ENERGY), (.ref w_OFF_PEAK_ENERGY), (.ref w_BILLING_DEMAND_DAYS), (.ref w_METERED_DEMAND_DAYS), (.ref w_FIXTURE_DAYS), .null, .null, .null, .null, .null] .null := Arv.set Ar21 q21 S21 M21 Hs21 G21 rfl W22 6 rfl (Nat.le_of_ble_eq_true rfl)
  have KK22 : Keep h0 h22 [] := KK19.wr W22 (Or.inr sz_b1)
  have OL22 := OL19.wr W22 g_b1
  have N22 := Fr.snoc X22 N19 g_b1
  obtain ⟨T23, X23, e23, st23⟩ := getS2 X22 hx hZ hown (host := "") (Or.inl (wd18 hw)) Via.refl e22 (pr15.ext OL22.2) (g := (mkF m 51 #[.val (.int p1), .unset, .unset, .unset, .unset, .unset] [(.int (7 : Int32)), (.ref b1), (.ref b1)])) rfl (hb hby at_51)
  obtain ⟨cl24, Ar24, q24, S24, M24, Hs24, G24⟩ := V22
  have hin24 : ¬ ((7 : Int32) < 0 ∨ cl24.slots.size ≤ ((7 : Int32)).toNatClampNeg) := inb_of S24 ⟨by decide, by decide⟩
  obtain ⟨T25, h25, X25, e25, W25, st25⟩ := stR X23 hx hZ e23 Ar24 (j := (7 : Int32)) hin24 rfl (Sto.ofV Ar24 q24 O1 (Ins.self (pr16.ext OL22.2))) (g := (mkF m 54 #[.val (.int p1), .unset, .unset, .unset, .unset, .unset] [(.ref w_HIGHEST_HOUR_ENERGY), (.int (7 : Int32)), (.ref b1), (.ref b1)])) rfl rfl (hb hby at_54)
  have V25 : Arv Z h25 b1 k1 (.object "com/example/tarcal/tarcal/schedules/Basis") (12 : Int32) [(.ref w_DAYS), (.ref w_ENERGY), (.ref w_ON_PEAK_ENERGY), (.ref w_OFF_PEAK_ENERGY), (.ref w_BILLING_DEMAND_DAYS), (.ref w_METERED_DEMAND_DAYS), (.ref w_FIXTURE_DAYS), (.ref w_HIGHEST_HOUR_ENERGY), .null, .null, .null, .null] .null := Arv.set Ar24 q24 S24 M24 Hs24 G24 rfl W25 7 rfl (Nat.le_of_ble_eq_true rfl)
  have KK25 : Keep h0 h25 [] := KK22.wr W25 (Or.inr sz_b1)
  have OL25 := OL22.wr W25 g_b1
  have N25 := Fr.snoc X25 N22 g_b1
  obtain ⟨T26, X26, e26, st26⟩ := getS2 X25 hx hZ hown (host := "") (Or.inl (wd20 hw)) Via.refl e25 (pr17.ext OL25.2) (g := (mkF m 58 #[.val (.int p1), .unset, .unset, .unset, .unset, .unset] [(.int (8 : Int32)), (.ref b1), (.ref b1)])) rfl (hb hby at_58)
  obtain ⟨cl27, Ar27, q27, S27, M27, Hs27, G27⟩ := V25
  have hin27 : ¬ ((8 : Int32) < 0 ∨ cl27.slots.size ≤ ((8 : Int32)).toNatClampNeg) := inb_of S27 ⟨by decide, by decide⟩
  obtain ⟨T28, h28, X28, e28, W28, st28⟩ := stR X26 hx hZ e26 Ar27 (j := (8 : Int32)) hin27 rfl (Sto.ofV Ar27 q27 O1 (Ins.self (pr18.ext OL25.2))) (g := (mkF m 61 #[.val (.int p1), .unset, .unset, .unset, .unset, .unset] [(.ref w_GAS_INDEXED_ENERGY), (.int (8 : Int32)), (.ref b1), (.ref b1)])) rfl rfl (hb hby at_61)
  have V28 : Arv Z h28 b1 k1 (.object "com/example/tarcal/tarcal/schedules/Basis") (12 : Int32) [(.ref w_DAYS), (.ref w_ENERGY), (.ref w_ON_PEAK_ENERGY), (.ref w_OFF_PEAK_ENERGY), (.ref w_BILLING_DEMAND_DAYS), (.ref w_METERED_DEMAND_DAYS), (.ref w_FIXTURE_DAYS), (.ref w_HIGHEST_HOUR_ENERGY), (.ref w_GAS_INDEXED_ENERGY), .null, .null, .null] .null := Arv.set Ar27 q27 S27 M27 Hs27 G27 rfl W28 8 rfl (Nat.le_of_ble_eq_true rfl)
  have KK28 : Keep h0 h28 [] := KK25.wr W28 (Or.inr sz_b1)
  have OL28 := OL25.wr W28 g_b1
  have N28 := Fr.snoc X28 N25 g_b1
  obtain ⟨T29, X29, e29, st29⟩ := getS2 X28 hx hZ hown (host := "") (Or.inl (wd22 hw)) Via.refl e28 (pr19.ext OL28.2) (g := (mkF m 65 #[.val (.int p1), .unset, .unset, .unset, .unset, .unset] [(.int (9 : Int32)), (.ref b1), (.ref b1)])) rfl (hb hby at_65)
  obtain ⟨cl30, Ar30, q30, S30, M30, Hs30, G30⟩ := V28
  have hin30 : ¬ ((9 : Int32) < 0 ∨ cl30.slots.size ≤ ((9 : Int32)).toNatClampNeg) := inb_of S30 ⟨by decide, by decide⟩
  obtain ⟨T31, h31, X31, e31, W31, st31⟩ := stR X29 hx hZ e29 Ar30 (j := (9 : Int32)) hin30 rfl (Sto.ofV Ar30 q30 O1 (Ins.self (pr20.ext OL28.2))) (g := (mkF m 68 #[.val (.int p1), .unset, .unset, .unset, .unset, .unset] [(.ref w_POOL_PRICED_ENERGY), (.int (9 : Int32)), (.ref b1), (.ref b1)])) rfl rfl (hb hby at_68)
  have V31 : Arv Z h31 b1 k1 (.object "com/example/tarcal/tarcal/schedules/Basis") (12 : Int32) [(.ref w_DAYS), (.ref w_ENERGY), (.ref w_ON_PEAK_ENERGY), (.ref w_OFF_PEAK_ENERGY), (.ref w_BILLING_DEMAND_DAYS), (.ref w_METERED_DEMAND_DAYS), (.ref w_FIXTURE_DAYS), (.ref w_HIGHEST_HOUR_ENERGY), (.ref w_GAS_INDEXED_ENERGY), (.ref w_POOL_PRICED_ENERGY), .null, .null] .null := Arv.set Ar30 q30 S30 M30 Hs30 G30 rfl W31 9 rfl (Nat.le_of_ble_eq_true rfl)
  have KK31 : Keep h0 h31 [] := KK28.wr W31 (Or.inr sz_b1)
  have OL31 := OL28.wr W31 g_b1
  have N31 := Fr.snoc X31 N28 g_b1
  obtain ⟨T32, X32, e32, st32⟩ := getS2 X31 hx hZ hown (host := "") (Or.inl (wd24 hw)) Via.refl e31 (pr21.ext OL31.2) (g := (mkF m 72 #[.val (.int p1), .unset, .unset, .unset, .unset, .unset] [(.int (10 : Int32)), (.ref b1), (.ref b1)])) rfl (hb hby at_72)
  obtain ⟨cl33, Ar33, q33, S33, M33, Hs33, G33⟩ := V31
  have hin33 : ¬ ((10 : Int32) < 0 ∨ cl33.slots.size ≤ ((10 : Int32)).toNatClampNeg) := inb_of S33 ⟨by decide, by decide⟩
  obtain ⟨T34, h34, X34, e34, W34, st34⟩ := stR X32 hx hZ e32 Ar33 (j := (10 : Int32)) hin33 rfl (Sto.ofV Ar33 q33 O1 (Ins.self (pr22.ext OL31.2))) (g := (mkF m 75 #[.val (.int p1), .unset, .unset, .unset, .unset, .unset] [(.ref w_ISO_COSTS), (.int (10 : Int32)), (.ref b1), (.ref b1)])) rfl rfl (hb hby at_75)
  have V34 : Arv Z h34 b1 k1 (.object "com/example/tarcal/tarcal/schedules/Basis") (12 : Int32) [(.ref w_DAYS), (.ref w_ENERGY), (.ref w_ON_PEAK_ENERGY), (.ref w_OFF_PEAK_ENERGY), (.ref w_BILLING_DEMAND_DAYS), (.ref w_METERED_DEMAND_DAYS), (.ref w_FIXTURE_DAYS), (.ref w_HIGHEST_HOUR_ENERGY), (.ref w_GAS_INDEXED_ENERGY), (.ref w_POOL_PRICED_ENERGY), (.ref w_ISO_COSTS), .null] .null := Arv.set Ar33 q33 S33 M33 Hs33 G33 rfl W34 10 rfl (Nat.le_of_ble_eq_true rfl)
  have KK34 : Keep h0 h34 [] := KK31.wr W34 (Or.inr sz_b1)
  have OL34 := OL31.wr W34 g_b1
  have N34 := Fr.snoc X34 N31 g_b1
  obtain ⟨T35, X35, e35, st35⟩ := getS2 X34 hx hZ hown (host := "") (Or.inl (wd26 hw)) Via.refl e34 (pr23.ext OL34.2) (g := (mkF m 79 #[.val (.int p1), .unset, .unset, .unset, .unset, .unset] [(.int (11 : Int32)), (.ref b1), (.ref b1)])) rfl (hb hby at_79)
  obtain ⟨cl36, Ar36, q36, S36, M36, Hs36, G36⟩ := V34
  have hin36 : ¬ ((11 : Int32) < 0 ∨ cl36.slots.size ≤ ((11 : Int32)).toNatClampNeg) := inb_of S36 ⟨by decide, by decide⟩
  obtain ⟨T37, h37, X37, e37, W37, st37⟩ := stR X35 hx hZ e35 Ar36 (j := (11 : Int32)) hin36 rfl (Sto.ofV Ar36 q36 O1 (Ins.self (pr24.ext OL34.2))) (g := (mkF m 82 #[.val (.int p1), .unset, .unset, .unset, .unset, .unset] [(.ref w_DISTRIBUTION_ACCESS_CHARGES), (.int (11 : Int32)), (.ref b1), (.ref b1)])) rfl rfl (hb hby at_82)
  have V37 : Arv Z h37 b1 k1 (.object "com/example/tarcal/tarcal/schedules/Basis") (12 : Int32) [(.ref w_DAYS), (.ref w_ENERGY), (.ref w_ON_PEAK_ENERGY), (.ref w_OFF_PEAK_ENERGY), (.ref w_BILLING_DEMAND_DAYS), (.ref w_METERED_DEMAND_DAYS), (.ref w_FIXTURE_DAYS), (.ref w_HIGHEST_HOUR_ENERGY), (.ref w_GAS_INDEXED_ENERGY), (.ref w_POOL_PRICED_ENERGY), (.ref w_ISO_COSTS), (.ref w_DISTRIBUTION_ACCESS_CHARGES)] .null := Arv.set Ar36 q36 S36 M36 Hs36 G36 rfl W37 11 rfl (Nat.le_of_ble_eq_true rfl)
  have KK37 : Keep h0 h37 [] := KK34.wr W37 (Or.inr sz_b1)
  have OL37 := OL34.wr W37 g_b1
  have N37 := Fr.snoc X37 N34 g_b1
  obtain ⟨cl38, Ar38, -, S38, -, Hs38, -⟩ := V37
  have hin38 : ¬ ((6 : Int32) < 0 ∨ cl38.slots.size ≤ ((6 : Int32)).toNatClampNeg) := inb_of S38 ⟨by decide, by decide⟩
  have hat38 : cl38.slots[((6 : Int32)).toNatClampNeg]? = some (.ref w_FIXTURE_DAYS) := Hs38.at hin38 rfl
  obtain ⟨cq39, kq39, q39a, q39b, q39c⟩ := isOf hZ e37 (pr14.ext OL37.2)
  obtain ⟨_, _, ⟨T39, L39, k39, n39⟩, -, X39, ⟨Lc39, hQ39, l39, y39, z39⟩, st39⟩ := X37.virtualBack hx (y := (⟨"com/example/tarcal/tarcal/schedules/Basis", "perPeriod", "()Z"⟩ : MethodName)) (z := (⟨"com/example/tarcal/tarcal/schedules/Basis", "perPeriod", "()Z"⟩ : MethodName)) hown (mvT hZ (wd29 hw)) (mvT hZ (wd30 hw)) (notFace_of_selects (args := #[]) (mvT hZ (wd32 hw))) (mvT hZ (wd32 hw)) (mvT hZ (wd31 hw)) (by decide) (backOf (W := 0) (rm1_0 l Z a0 hw [] w_FIXTURE_DAYS w_HIGHEST_HOUR_ENERGY w_GAS_INDEXED_ENERGY w_POOL_PRICED_ENERGY h37 n0 OL37 pr15 pr26 pr17 pr27 pr19 pr28) hZ (wd33 hw) (wd3 hw) (by decide) (by decide)) q39a q39c (g := (mkF m 122 #[.val (.int p1), .val (.ref b1), .val (.int (6 : Int32)), .val (.ref w_FIXTURE_DAYS), .val (.int (0 : Int32)), .unset] [(.ref w_FIXTURE_DAYS)])) rfl (by rw [hml]; rfl) (Steps.refl _) (argsL := []) (rest := []) (lenOf pd_0 rfl) rfl (by show 2 * 0 + _ ≤ _; exact Nat.le_of_eq rfl) (hb hby at_122) (fun _ _ => ⟨rfl, e37, (by decide : 1 + 0 ≤ _), (by decide : 12 + 0 ≤ _)⟩)
  dsimp only [Pt.U, Pt.locs, Pt.cells, Pt.slots] at X39 l39 y39 z39 st39 hQ39
  subst l39 y39 z39
  obtain ⟨rfl, Nq39, ec39⟩ := hQ39
  have N39 := Fr.app N37 Nq39
  obtain ⟨fs, hr, hrun, hended, hW, hsame⟩ := X39.leave (v := some (.int (1 : Int32))) (fun h => by rw [Bd.returns] at h; cases h)
  refine ⟨_, _, pre0 _ ?_, hrun, hended, _, _, rfl, ?_, ⟨_, rfl⟩, hW, hsame.mono (by decide) (by decide)⟩
  · show Steps p.tables e below (s₁.setTop (mkF m 0 #[.val (.int p1), .unset, .unset, .unset, .unset, .unset] [])) _
    refine XS.bipush X0.here hx rfl (hb hby at_0) ?_
    show Steps p.tables e below (s₁.setTop (mkF m 2 #[.val (.int p1), .unset, .unset, .unset, .unset, .unset] [(.int (12 : Int32))])) _
    refine st1 _ ?_
    show Steps p.tables e below (T1.setTop (mkF m 5 #[.val (.int p1), .unset, .unset, .unset, .unset, .unset] [(.ref b1)])) _
    refine XS.dup X1.here hx rfl (hb hby at_5) rfl rfl ?_
    show Steps p.tables e below (T1.setTop (mkF m 6 #[.val (.int p1), .unset, .unset, .unset, .unset, .unset] [(.ref b1), (.ref b1)])) _
    refine XS.iconst X1.here hx rfl (hb hby at_6) ?_
    show Steps p.tables e below (T1.setTop (mkF m 7 #[.val (.int p1), .unset, .unset, .unset, .unset, .unset] [(.int (0 : Int32)), (.ref b1), (.ref b1)])) _
    refine st2 _ ?_
    show Steps p.tables e below (T2.setTop (mkF m 10 #[.val (.int p1), .unset, .unset, .unset, .unset, .unset] [(.ref w_DAYS), (.int (0 : Int32)), (.ref b1), (.ref b1)])) _
    refine st4 _ ?_
    show Steps p.tables e below (T4.setTop (mkF m 11 #[.val (.int p1), .unset, .unset, .unset, .unset, .unset] [(.ref b1)])) _
    refine XS.dup X4.here hx rfl (hb hby at_11) rfl rfl ?_
    show Steps p.tables e below (T4.setTop (mkF m 12 #[.val (.int p1), .unset, .unset, .unset, .unset, .unset] [(.ref b1), (.ref b1)])) _
    refine XS.iconst X4.here hx rfl (hb hby at_12) ?_
    show Steps p.tables e below (T4.setTop (mkF m 13 #[.val (.int p1), .unset, .unset, .unset, .unset, .unset] [(.int (1 : Int32)), (.ref b1), (.ref b1)])) _
    refine st5 _ ?_
    show Steps p.tables e below (T5.setTop (mkF m 16 #[.val (.int p1), .unset, .unset, .unset, .unset, .unset] [(.ref w_ENERGY), (.int (1 : Int32)), (.ref b1), (.ref b1)])) _
    refine st7 _ ?_
    show Steps p.tables e below (T7.setTop (mkF m 17 #[.val (.int p1), .unset, .unset, .unset, .unset, .unset] [(.ref b1)])) _
    refine XS.dup X7.here hx rfl (hb hby at_17) rfl rfl ?_
    show Steps p.tables e below (T7.setTop (mkF m 18 #[.val (.int p1), .unset, .unset, .unset, .unset, .unset] [(.ref b1), (.ref b1)])) _
    refine XS.iconst X7.here hx rfl (hb hby at_18) ?_
    show Steps p.tables e below (T7.setTop (mkF m 19 #[.val (.int p1), .unset, .unset, .unset, .unset, .unset] [(.int (2 : Int32)), (.ref b1), (.ref b1)])) _
    refine st8 _ ?_
    show Steps p.tables e below (T8.setTop (mkF m 22 #[.val (.int p1), .unset, .unset, .unset, .unset, .unset] [(.ref w_ON_PEAK_ENERGY), (.int (2 : Int32)), (.ref b1), (.ref b1)])) _
    refine st10 _ ?_
    show Steps p.tables e below (T10.setTop (mkF m 23 #[.val (.int p1), .unset, .unset, .unset, .unset, .unset] [(.ref b1)])) _
    refine XS.dup X10.here hx rfl (hb hby at_23) rfl rfl ?_
    show Steps p.tables e below (T10.setTop (mkF m 24 #[.val (.int p1), .unset, .unset, .unset, .unset, .unset] [(.ref b1), (.ref b1)])) _
    refine XS.iconst X10.here hx rfl (hb hby at_24) ?_
    show Steps p.tables e below (T10.setTop (mkF m 25 #[.val (.int p1), .unset, .unset, .unset, .unset, .unset] [(.int (3 : Int32)), (.ref b1), (.ref b1)])) _
    refine st11 _ ?_
    show Steps p.tables e below (T11.setTop (mkF m 28 #[.val (.int p1), .unset, .unset, .unset, .unset, .unset] [(.ref w_OFF_PEAK_ENERGY), (.int (3 : Int32)), (.ref b1), (.ref b1)])) _
    refine st13 _ ?_
    show Steps p.tables e below (T13.setTop (mkF m 29 #[.val (.int p1), .unset, .unset, .unset, .unset, .unset] [(.ref b1)])) _
    refine XS.dup X13.here hx rfl (hb hby at_29) rfl rfl ?_
    show Steps p.tables e below (T13.setTop (mkF m 30 #[.val (.int p1), .unset, .unset, .unset, .unset, .unset] [(.ref b1), (.ref b1)])) _
    refine XS.iconst X13.here hx rfl (hb hby at_30) ?_
    show Steps p.tables e below (T13.setTop (mkF m 31 #[.val (.int p1), .unset, .unset, .unset, .unset, .unset] [(.int (4 : Int32)), (.ref b1), (.ref b1)])) _
    refine st14 _ ?_
    show Steps p.tables e below (T14.setTop (mkF m 34 #[.val (.int p1), .unset, .unset, .unset, .unset, .unset] [(.ref w_BILLING_DEMAND_DAYS), (.int (4 : Int32)), (.ref b1), (.ref b1)])) _
    refine st16 _ ?_
    show Steps p.tables e below (T16.setTop (mkF m 35 #[.val (.int p1), .unset, .unset, .unset, .unset, .unset] [(.ref b1)])) _
    refine XS.dup X16.here hx rfl (hb hby at_35) rfl rfl ?_
    show Steps p.tables e below (T16.setTop (mkF m 36 #[.val (.int p1), .unset, .unset, .unset, .unset, .unset] [(.ref b1), (.ref b1)])) _
    refine XS.iconst X16.here hx rfl (hb hby at_36) ?_
    show Steps p.tables e below (T16.setTop (mkF m 37 #[.val (.int p1), .unset, .unset, .unset, .unset, .unset] [(.int (5 : Int32)), (.ref b1), (.ref b1)])) _
    refine st17 _ ?_
    show Steps p.tables e below (T17.setTop (mkF m 40 #[.val (.int p1), .unset, .unset, .unset, .unset, .unset] [(.ref w_METERED_DEMAND_DAYS), (.int (5 : Int32)), (.ref b1), (.ref b1)])) _
    refine st19 _ ?_
    show Steps p.tables e below (T19.setTop (mkF m 41 #[.val (.int p1), .unset, .unset, .unset, .unset, .unset] [(.ref b1)])) _
    refine XS.dup X19.here hx rfl (hb hby at_41) rfl rfl ?_
    show Steps p.tables e below (T19.setTop (mkF m 42 #[.val (.int p1), .unset, .unset, .unset, .unset, .unset] [(.ref b1), (.ref b1)])) _
    refine XS.bipush X19.here hx rfl (hb hby at_42) ?_
    show Steps p.tables e below (T19.setTop (mkF m 44 #[.val (.int p1), .unset, .unset, .unset, .unset, .unset] [(.int (6 : Int32)), (.ref b1), (.ref b1)])) _
    refine st20 _ ?_
    show Steps p.tables e below (T20.setTop (mkF m 47 #[.val (.int p1), .unset, .unset, .unset, .unset, .unset] [(.ref w_FIXTURE_DAYS), (.int (6 : Int32)), (.ref b1), (.ref b1)])) _
    refine st22 _ ?_
    show Steps p.tables e below (T22.setTop (mkF m 48 #[.val (.int p1), .unset, .unset, .unset, .unset, .unset] [(.ref b1)])) _
    refine XS.dup X22.here hx rfl (hb hby at_48) rfl rfl ?_
    show Steps p.tables e below (T22.setTop (mkF m 49 #[.val (.int p1), .unset, .unset, .unset, .unset, .unset] [(.ref b1), (.ref b1)])) _
    refine XS.bipush X22.here hx rfl (hb hby at_49) ?_
    show Steps p.tables e below (T22.setTop (mkF m 51 #[.val (.int p1), .unset, .unset, .unset, .unset, .unset] [(.int (7 : Int32)), (.ref b1), (.ref b1)])) _
    refine st23 _ ?_
    show Steps p.tables e below (T23.setTop (mkF m 54 #[.val (.int p1), .unset, .unset, .unset, .unset, .unset] [(.ref w_HIGHEST_HOUR_ENERGY), (.int (7 : Int32)), (.ref b1), (.ref b1)])) _
    refine st25 _ ?_
    show Steps p.tables e below (T25.setTop (mkF m 55 #[.val (.int p1), .unset, .unset, .unset, .unset, .unset] [(.ref b1)])) _
    refine XS.dup X25.here hx rfl (hb hby at_55) rfl rfl ?_
    show Steps p.tables e below (T25.setTop (mkF m 56 #[.val (.int p1), .unset, .unset, .unset, .unset, .unset] [(.ref b1), (.ref b1)])) _
    refine XS.bipush X25.here hx rfl (hb hby at_56) ?_
    show Steps p.tables e below (T25.setTop (mkF m 58 #[.val (.int p1), .unset, .unset, .unset, .unset, .unset] [(.int (8 : Int32)), (.ref b1), (.ref b1)])) _
    refine st26 _ ?_
    show Steps p.tables e below (T26.setTop (mkF m 61 #[.val (.int p1), .unset, .unset, .unset, .unset, .unset] [(.ref w_GAS_INDEXED_ENERGY), (.int (8 : Int32)), (.ref b1), (.ref b1)])) _
    refine st28 _ ?_
    show Steps p.tables e below (T28.setTop (mkF m 62 #[.val (.int p1), .unset, .unset, .unset, .unset, .unset] [(.ref b1)])) _
    refine XS.dup X28.here hx rfl (hb hby at_62) rfl rfl ?_
    show Steps p.tables e below (T28.setTop (mkF m 63 #[.val (.int p1), .unset, .unset, .unset, .unset, .unset] [(.ref b1), (.ref b1)])) _
    refine XS.bipush X28.here hx rfl (hb hby at_63) ?_
    show Steps p.tables e below (T28.setTop (mkF m 65 #[.val (.int p1), .unset, .unset, .unset, .unset, .unset] [(.int (9 : Int32)), (.ref b1), (.ref b1)])) _
    refine st29 _ ?_
    show Steps p.tables e below (T29.setTop (mkF m 68 #[.val (.int p1), .unset, .unset, .unset, .unset, .unset] [(.ref w_POOL_PRICED_ENERGY), (.int (9 : Int32)), (.ref b1), (.ref b1)])) _
    refine st31 _ ?_
    show Steps p.tables e below (T31.setTop (mkF m 69 #[.val (.int p1), .unset, .unset, .unset, .unset, .unset] [(.ref b1)])) _
    refine XS.dup X31.here hx rfl (hb hby at_69) rfl rfl ?_
    show Steps p.tables e below (T31.setTop (mkF m 70 #[.val (.int p1), .unset, .unset, .unset, .unset, .unset] [(.ref b1), (.ref b1)])) _
    refine XS.bipush X31.here hx rfl (hb hby at_70) ?_
    show Steps p.tables e below (T31.setTop (mkF m 72 #[.val (.int p1), .unset, .unset, .unset, .unset, .unset] [(.int (10 : Int32)), (.ref b1), (.ref b1)])) _
    refine st32 _ ?_
    show Steps p.tables e below (T32.setTop (mkF m 75 #[.val (.int p1), .unset, .unset, .unset, .unset, .unset] [(.ref w_ISO_COSTS), (.int (10 : Int32)), (.ref b1), (.ref b1)])) _
    refine st34 _ ?_
    show Steps p.tables e below (T34.setTop (mkF m 76 #[.val (.int p1), .unset, .unset, .unset, .unset, .unset] [(.ref b1)])) _
    refine XS.dup X34.here hx rfl (hb hby at_76) rfl rfl ?_
    show Steps p.tables e below (T34.setTop (mkF m 77 #[.val (.int p1), .unset, .unset, .unset, .unset, .unset] [(.ref b1), (.ref b1)])) _
    refine XS.bipush X34.here hx rfl (hb hby at_77) ?_
    show Steps p.tables e below (T34.setTop (mkF m 79 #[.val (.int p1), .unset, .unset, .unset, .unset, .unset] [(.int (11 : Int32)), (.ref b1), (.ref b1)])) _
    refine st35 _ ?_
    show Steps p.tables e below (T35.setTop (mkF m 82 #[.val (.int p1), .unset, .unset, .unset, .unset, .unset] [(.ref w_DISTRIBUTION_ACCESS_CHARGES), (.int (11 : Int32)), (.ref b1), (.ref b1)])) _
    refine st37 _ ?_
    show Steps p.tables e below (T37.setTop (mkF m 83 #[.val (.int p1), .unset, .unset, .unset, .unset, .unset] [(.ref b1)])) _
    refine XS.astoreN X37.here hx rfl (hb hby at_83) rfl rfl (l' := #[.val (.int p1), .val (.ref b1), .unset, .unset, .unset, .unset]) rfl ?_
    show Steps p.tables e below (T37.setTop (mkF m 84 #[.val (.int p1), .val (.ref b1), .unset, .unset, .unset, .unset] [])) _
    refine XS.iloadN X37.here hx rfl (hb hby at_84) rfl ?_
    show Steps p.tables e below (T37.setTop (mkF m 85 #[.val (.int p1), .val (.ref b1), .unset, .unset, .unset, .unset] [(.int p1)])) _
    refine X37.ldcInt hx hown (mvT hZ (wd28 hw)) (g := (mkF m 85 #[.val (.int p1), .val (.ref b1), .unset, .unset, .unset, .unset] [(.int p1)])) rfl (hb hby at_85) _ ?_
    show Steps p.tables e below (T37.setTop (mkF m 87 #[.val (.int p1), .val (.ref b1), .unset, .unset, .unset, .unset] [(.int (2147483647 : Int32)), (.int p1)])) _
    refine XS.iand X37.here hx rfl (hb hby at_87) rfl ?_
    show Steps p.tables e below (T37.setTop (mkF m 88 #[.val (.int p1), .val (.ref b1), .unset, .unset, .unset, .unset] [(.int (p1 &&& (2147483647 : Int32)))])) _
    refine XS.bipush X37.here hx rfl (hb hby at_88) ?_
    show Steps p.tables e below (T37.setTop (mkF m 90 #[.val (.int p1), .val (.ref b1), .unset, .unset, .unset, .unset] [(.int (12 : Int32)), (.int (p1 &&& (2147483647 : Int32)))])) _
    refine iremM X37 hx rfl (hb hby at_90) rfl (by decide) ?_
    show Steps p.tables e below (T37.setTop (mkF m 91 #[.val (.int p1), .val (.ref b1), .unset, .unset, .unset, .unset] [(.int ((p1 &&& (2147483647 : Int32)) % (12 : Int32)))])) _
    rw [pr25]
    show Steps p.tables e below (T37.setTop (mkF m 91 #[.val (.int p1), .val (.ref b1), .unset, .unset, .unset, .unset] [(.int (6 : Int32))])) _
    refine XS.istoreN X37.here hx rfl (hb hby at_91) rfl (l' := #[.val (.int p1), .val (.ref b1), .val (.int (6 : Int32)), .unset, .unset, .unset]) rfl ?_
    show Steps p.tables e below (T37.setTop (mkF m 92 #[.val (.int p1), .val (.ref b1), .val (.int (6 : Int32)), .unset, .unset, .unset] [])) _
    refine XS.aloadN X37.here hx rfl (hb hby at_92) rfl rfl ?_
    show Steps p.tables e below (T37.setTop (mkF m 93 #[.val (.int p1), .val (.ref b1), .val (.int (6 : Int32)), .unset, .unset, .unset] [(.ref b1)])) _
    refine XS.iloadN X37.here hx rfl (hb hby at_93) rfl ?_
    show Steps p.tables e below (T37.setTop (mkF m 94 #[.val (.int p1), .val (.ref b1), .val (.int (6 : Int32)), .unset, .unset, .unset] [(.int (6 : Int32)), (.ref b1)])) _
    refine X37.aaload hx (j := (6 : Int32)) (v := (.ref w_FIXTURE_DAYS)) (by rw [e37]; exact Ar38.1) (State.isArrayOf_alike hZ.alike Ar38.2.1) rfl Ar38.2.2 hin38 hat38 (g := (mkF m 94 #[.val (.int p1), .val (.ref b1), .val (.int (6 : Int32)), .unset, .unset, .unset] [(.int (6 : Int32)), (.ref b1)])) rfl rfl (hb hby at_94) _ ?_
    show Steps p.tables e below (T37.setTop (mkF m 95 #[.val (.int p1), .val (.ref b1), .val (.int (6 : Int32)), .unset, .unset, .unset] [(.ref w_FIXTURE_DAYS)])) _
    refine XS.astoreN X37.here hx rfl (hb hby at_95) rfl rfl (l' := #[.val (.int p1), .val (.ref b1), .val (.int (6 : Int32)), .val (.ref w_FIXTURE_DAYS), .unset, .unset]) rfl ?_
    show Steps p.tables e below (T37.setTop (mkF m 96 #[.val (.int p1), .val (.ref b1), .val (.int (6 : Int32)), .val (.ref w_FIXTURE_DAYS), .unset, .unset] [])) _
    refine XS.iloadN X37.here hx rfl (hb hby at_96) rfl ?_
    show Steps p.tables e below (T37.setTop (mkF m 97 #[.val (.int p1), .val (.ref b1), .val (.int (6 : Int32)), .val (.ref w_FIXTURE_DAYS), .unset, .unset] [(.int (6 : Int32))])) _
    refine XS.bipush X37.here hx rfl (hb hby at_97) ?_
    show Steps p.tables e below (T37.setTop (mkF m 99 #[.val (.int p1), .val (.ref b1), .val (.int (6 : Int32)), .val (.ref w_FIXTURE_DAYS), .unset, .unset] [(.int (7 : Int32)), (.int (6 : Int32))])) _
    refine XS.icmpNo X37.here hx rfl (hb hby at_99) rfl (feq (by decide : ¬ ((6 : Int32) = (7 : Int32)))).1 ?_
    show Steps p.tables e below (T37.setTop (mkF m 102 #[.val (.int p1), .val (.ref b1), .val (.int (6 : Int32)), .val (.ref w_FIXTURE_DAYS), .unset, .unset] [])) _
    refine XS.iloadN X37.here hx rfl (hb hby at_102) rfl ?_
    show Steps p.tables e below (T37.setTop (mkF m 103 #[.val (.int p1), .val (.ref b1), .val (.int (6 : Int32)), .val (.ref w_FIXTURE_DAYS), .unset, .unset] [(.int (6 : Int32))])) _
    refine XS.bipush X37.here hx rfl (hb hby at_103) ?_
    show Steps p.tables e below (T37.setTop (mkF m 105 #[.val (.int p1), .val (.ref b1), .val (.int (6 : Int32)), .val (.ref w_FIXTURE_DAYS), .unset, .unset] [(.int (8 : Int32)), (.int (6 : Int32))])) _
    refine XS.icmpNo X37.here hx rfl (hb hby at_105) rfl (feq (by decide : ¬ ((6 : Int32) = (8 : Int32)))).1 ?_
    show Steps p.tables e below (T37.setTop (mkF m 108 #[.val (.int p1), .val (.ref b1), .val (.int (6 : Int32)), .val (.ref w_FIXTURE_DAYS), .unset, .unset] [])) _
    refine XS.iloadN X37.here hx rfl (hb hby at_108) rfl ?_
    show Steps p.tables e below (T37.setTop (mkF m 109 #[.val (.int p1), .val (.ref b1), .val (.int (6 : Int32)), .val (.ref w_FIXTURE_DAYS), .unset, .unset] [(.int (6 : Int32))])) _
    refine XS.bipush X37.here hx rfl (hb hby at_109) ?_
    show Steps p.tables e below (T37.setTop (mkF m 111 #[.val (.int p1), .val (.ref b1), .val (.int (6 : Int32)), .val (.ref w_FIXTURE_DAYS), .unset, .unset] [(.int (9 : Int32)), (.int (6 : Int32))])) _
    refine XS.icmpYes X37.here hx rfl (pc0 := 111) (pc' := 118) rfl (hb hby at_111) rfl (feq (by decide : ¬ ((6 : Int32) = (9 : Int32)))).2 (by decide) (by decide) ?_
    show Steps p.tables e below (T37.setTop (mkF m 118 #[.val (.int p1), .val (.ref b1), .val (.int (6 : Int32)), .val (.ref w_FIXTURE_DAYS), .unset, .unset] [])) _
    refine XS.iconst X37.here hx rfl (hb hby at_118) ?_
    show Steps p.tables e below (T37.setTop (mkF m 119 #[.val (.int p1), .val (.ref b1), .val (.int (6 : Int32)), .val (.ref w_FIXTURE_DAYS), .unset, .unset] [(.int (0 : Int32))])) _
    refine XS.istore X37.here hx rfl (hb hby at_119) rfl (l' := #[.val (.int p1), .val (.ref b1), .val (.int (6 : Int32)), .val (.ref w_FIXTURE_DAYS), .val (.int (0 : Int32)), .unset]) rfl ?_
    show Steps p.tables e below (T37.setTop (mkF m 121 #[.val (.int p1), .val (.ref b1), .val (.int (6 : Int32)), .val (.ref w_FIXTURE_DAYS), .val (.int (0 : Int32)), .unset] [])) _
    refine XS.aloadN X37.here hx rfl (hb hby at_121) rfl rfl ?_
    show Steps p.tables e below (T37.setTop (mkF m 122 #[.val (.int p1), .val (.ref b1), .val (.int (6 : Int32)), .val (.ref w_FIXTURE_DAYS), .val (.int (0 : Int32)), .unset] [(.ref w_FIXTURE_DAYS)])) _
    refine st39.trans ?_
    show Steps p.tables e below (T39.setTop (mkF m 125 #[.val (.int p1), .val (.ref b1), .val (.int (6 : Int32)), .val (.ref w_FIXTURE_DAYS), .val (.int (0 : Int32)), .unset] [(.int (0 : Int32))])) _
    refine XS.istore X39.here hx rfl (hb hby at_125) rfl (l' := #[.val (.int p1), .val (.ref b1), .val (.int (6 : Int32)), .val (.ref w_FIXTURE_DAYS), .val (.int (0 : Int32)), .val (.int (0 : Int32))]) rfl ?_
    show Steps p.tables e below (T39.setTop (mkF m 127 #[.val (.int p1), .val (.ref b1), .val (.int (6 : Int32)), .val (.ref w_FIXTURE_DAYS), .val (.int (0 : Int32)), .val (.int (0 : Int32))] [])) _
    refine XS.iload X39.here hx rfl (hb hby at_127) rfl ?_
    show Steps p.tables e below (T39.setTop (mkF m 129 #[.val (.int p1), .val (.ref b1), .val (.int (6 : Int32)), .val (.ref w_FIXTURE_DAYS), .val (.int (0 : Int32)), .val (.int (0 : Int32))] [(.int (0 : Int32))])) _
    refine XS.iload X39.here hx rfl (hb hby at_129) rfl ?_
    show Steps p.tables e below (T39.setTop (mkF m 131 #[.val (.int p1), .val (.ref b1), .val (.int (6 : Int32)), .val (.ref w_FIXTURE_DAYS), .val (.int (0 : Int32)), .val (.int (0 : Int32))] [(.int (0 : Int32)), (.int (0 : Int32))])) _
    refine XS.icmpYes X39.here hx rfl (pc0 := 131) (pc' := 136) rfl (hb hby at_131) rfl (teq (rfl : (0 : Int32) = (0 : Int32))).1 (by decide) (by decide) ?_
    show Steps p.tables e below (T39.setTop (mkF m 136 #[.val (.int p1), .val (.ref b1), .val (.int (6 : Int32)), .val (.ref w_FIXTURE_DAYS), .val (.int (0 : Int32)), .val (.int (0 : Int32))] [])) _
    refine XS.iload X39.here hx rfl (hb hby at_136) rfl ?_
    show Steps p.tables e below (T39.setTop (mkF m 138 #[.val (.int p1), .val (.ref b1), .val (.int (6 : Int32)), .val (.ref w_FIXTURE_DAYS), .val (.int (0 : Int32)), .val (.int (0 : Int32))] [(.int (0 : Int32))])) _
    refine XS.ifYes X39.here hx rfl (pc0 := 138) (pc' := 164) rfl (hb hby at_138) rfl ((if0 _ _).trans (teq (rfl : (0 : Int32) = (0 : Int32))).1) (by decide) (by decide) ?_
    show Steps p.tables e below (T39.setTop (mkF m 164 #[.val (.int p1), .val (.ref b1), .val (.int (6 : Int32)), .val (.ref w_FIXTURE_DAYS), .val (.int (0 : Int32)), .val (.int (0 : Int32))] [])) _
    refine XS.iconst X39.here hx rfl (hb hby at_164) ?_
    show Steps p.tables e below (T39.setTop (mkF m 165 #[.val (.int p1), .val (.ref b1), .val (.int (6 : Int32)), .val (.ref w_FIXTURE_DAYS), .val (.int (0 : Int32)), .val (.int (0 : Int32))] [(.int (1 : Int32))])) _
    exact retN X39 hx (t := .boolean) Bd.returns (by simp) (hb hby at_165) hr
  · exact ⟨rfl, N39⟩
theorem d1_21 : decode prog_21_method_9_code 21 = .ok (.iconst 1, 1) := by decide +kernel
theorem d1_22 : decode prog_21_method_9_code 22 = .ok (.goto 4, 3) := by decide +kernel
def Q_rm1_1 (Z : State) (w1 : Addr) (h0 : Heap) (n0 : Nat) (v : Option Value) (h : Heap) (L : List Loc) : Prop := v = some (.int (1 : Int32)) ∧ Fr n0 L ∧ h = h0
set_option maxRecDepth 65536 in
set_option maxHeartbeats 40000000 in
theorem rm1_1 (l : Launch) (Z : State) (a0 : Array Value) (hw : ∀ d ∈ tables_1, d.before a0 Z = true) (ws : List Jvm.Cond) (w1 : Addr) (h0 : Heap) (n0 : Nat) (OL0 : Old Z n0 h0) (pr1 : Sta Z Z.heap "com/example/tarcal/tarcal/schedules/Basis" "HIGHEST_HOUR_ENERGY" "Lcom/example/tarcal/tarcal/schedules/Basis;" (.ref w1)) :
    MetFree l (⟨"com/example/tarcal/tarcal/schedules/Basis", "perPeriod", "()Z"⟩ : MethodName) (head1 (Jvm.Cond.code (⟨"com/example/tarcal/tarcal/schedules/Basis", "perPeriod", "()Z"⟩ : MethodName) prog_21_method_9_code 1 (some .boolean) :: ws) ({ frames := 0, cells := 0, slots := 0, locals := 0 } : Room)) (fun a U => a = #[(.ref w1)] ∧ Z.Warmed39 U.vm ∧ U.heap = h0) (fun _ _ _ _ _ => True) (fun _ U o U' => ∃ v L, o = .returned v ∧ Q_rm1_1 Z w1 h0 n0 v U'.heap L ∧ FrameEnd U o U' L ({ frames := 0, cells := 0, slots := 0, locals := 0 } : Room).cells ({ frames := 0, cells := 0, slots := 0, locals := 0 } : Room).slots) := by
  refine MetFree.of_bodySF (plainFor_of_name pn_0) hisR ?_
  intro p e s m args below meth c s₁ Bd hml0 hP hK
  obtain ⟨rfl, hZ, hh⟩ := hP
  have hx := Bd.exec
  have hby := Bd.bytes
  have hml : c.maxLocals = 1 := hml0
  have hown : s.vm.findClass "com/example/tarcal/tarcal/schedules/Basis" = some m.cls := findClass_of_methodNamed Bd.named
  have hnm := (name_of_methodNamed Bd.named Bd.method).1
  have X0 : Stand p l e ({ frames := 0, cells := 0, slots := 0, locals := 0 } : Room) s m #[(.ref w1)] below meth c s₁ [] 0 0 := Stand.of_body Bd
  have e0 : s₁.heap = h0 := by rw [← hh, Bd.state]; rfl
  have N0 := Fr.nil n0
  have pre0 : ∀ t, Steps p.tables e below (s₁.setTop (mkF m 0 #[.val (.ref w1)] [])) t → Steps p.tables e below (s₁.setTop (entryFrame m #[(.ref w1)] 1)) t := fun t k => castTop (ef_1_0 m w1) k
  obtain ⟨T2, X2, e2, st2⟩ := getS2 X0 hx hZ hown (host := "") (Or.inl (wd34 hw)) Via.refl e0 (pr1.ext OL0.2) (g := (mkF m 1 #[.val (.ref w1)] [(.ref w1)])) rfl (hb hby d1_1)
  obtain ⟨fs, hr, hrun, hended, hW, hsame⟩ := X2.leave (v := some (.int (1 : Int32))) (fun h => by rw [Bd.returns] at h; cases h)
  refine ⟨_, _, pre0 _ ?_, hrun, hended, _, _, rfl, ?_, ⟨_, rfl⟩, hW, hsame.mono (by decide) (by decide)⟩
  · show Steps p.tables e below (s₁.setTop (mkF m 0 #[.val (.ref w1)] [])) _
    refine XS.aloadN X0.here hx rfl (hb hby d1_0) rfl rfl ?_
    show Steps p.tables e below (s₁.setTop (mkF m 1 #[.val (.ref w1)] [(.ref w1)])) _
    refine st2 _ ?_
    show Steps p.tables e below (T2.setTop (mkF m 4 #[.val (.ref w1)] [(.ref w1), (.ref w1)])) _
    refine Jvm.RoadKit.acmp (g := (mkF m 4 #[.val (.ref w1)] [(.ref w1), (.ref w1)])) X2 hx rfl rfl rfl (pc0 := 4) (pc' := 21) (same := true) rfl (hb hby d1_4) rfl (decide_eq_true rfl) (by decide) (by decide) ?_
    show Steps p.tables e below (T2.setTop (mkF m 21 #[.val (.ref w1)] [])) _
    refine XS.iconst X2.here hx rfl (hb hby d1_21) ?_
    show Steps p.tables e below (T2.setTop (mkF m 22 #[.val (.ref w1)] [(.int (1 : Int32))])) _
    refine XS.goto X2.here hx rfl (pc0 := 22) (pc' := 26) rfl (hb hby d1_22) (by decide) (by decide) ?_
    show Steps p.tables e below (T2.setTop (mkF m 26 #[.val (.ref w1)] [(.int (1 : Int32))])) _
    exact retN X2 hx (t := .boolean) Bd.returns (by simp) (hb hby d1_26) hr
  · show Q_rm1_1 Z w1 h0 n0 _ T2.heap _
    rw [e2]
    exact ⟨rfl, N0, rfl⟩
theorem d2_0 : decode prog_21_method_6_code 0 = .ok (.aload_n 0, 1) := by decide +kernel
theorem d2_1 : decode prog_21_method_6_code 1 = .ok (.getfield 66, 3) := by decide +kernel
theorem d2_4 : decode prog_21_method_6_code 4 = .ok (.ireturn, 1) := by decide +kernel
theorem ef_2_2 (m : MethodId) (x0 : Addr) : entryFrame m #[(.ref x0)] 1 = mkF m 0 #[.val (.ref x0)] [] := by first | (simp [entryFrame, mkF, argsToLocals, Value.category]; done) | rfl
def Q_rm2_0 (Z : State) (w1 : Addr) (h0 : Heap) (n0 : Nat) (v : Option Value) (h : Heap) (L : List Loc) : Prop := v = some (.int (0 : Int32)) ∧ Fr n0 L ∧ h = h0
set_option maxRecDepth 65536 in
set_option maxHeartbeats 40000000 in
theorem rm2_0 (l : Launch) (Z : State) (a0 : Array Value) (hw : ∀ d ∈ tables_1, d.before a0 Z = true) (ws : List Jvm.Cond) (w1 : Addr) (h0 : Heap) (n0 : Nat) (OL0 : Old Z n0 h0) (pr1 : Fld Z Z.heap w1 "com/example/tarcal/tarcal/schedules/Basis" "onDemand" "Z" (.int (0 : Int32))) :
    MetFree l (⟨"com/example/tarcal/tarcal/schedules/Basis", "onDemand", "()Z"⟩ : MethodName) (head1 (Jvm.Cond.code (⟨"com/example/tarcal/tarcal/schedules/Basis", "onDemand", "()Z"⟩ : MethodName) prog_21_method_6_code 1 (some .boolean) :: ws) ({ frames := 0, cells := 0, slots := 0, locals := 0 } : Room)) (fun a U => a = #[(.ref w1)] ∧ Z.Warmed39 U.vm ∧ U.heap = h0) (fun _ _ _ _ _ => True) (fun _ U o U' => ∃ v L, o = .returned v ∧ Q_rm2_0 Z w1 h0 n0 v U'.heap L ∧ FrameEnd U o U' L ({ frames := 0, cells := 0, slots := 0, locals := 0 } : Room).cells ({ frames := 0, cells := 0, slots := 0, locals := 0 } : Room).slots) := by
  refine MetFree.of_bodySF (plainFor_of_name pn_0) hisR ?_
  intro p e s m args below meth c s₁ Bd hml0 hP hK
  obtain ⟨rfl, hZ, hh⟩ := hP
  have hx := Bd.exec
  have hby := Bd.bytes
  have hml : c.maxLocals = 1 := hml0
  have hown : s.vm.findClass "com/example/tarcal/tarcal/schedules/Basis" = some m.cls := findClass_of_methodNamed Bd.named
  have hnm := (name_of_methodNamed Bd.named Bd.method).1
  have X0 : Stand p l e ({ frames := 0, cells := 0, slots := 0, locals := 0 } : Room) s m #[(.ref w1)] below meth c s₁ [] 0 0 := Stand.of_body Bd
  have e0 : s₁.heap = h0 := by rw [← hh, Bd.state]; rfl
  have N0 := Fr.nil n0
  have pre0 : ∀ t, Steps p.tables e below (s₁.setTop (mkF m 0 #[.val (.ref w1)] [])) t → Steps p.tables e below (s₁.setTop (entryFrame m #[(.ref w1)] 1)) t := fun t k => castTop (ef_2_2 m w1) k
  obtain ⟨T2, X2, e2, st2⟩ := getF X0 hx hZ hown (host := "") (Or.inl (wd42 hw)) Via.refl e0 (pr1.ext OL0.2) (g := (mkF m 1 #[.val (.ref w1)] [(.ref w1)])) rfl rfl (hb hby d2_1)
  obtain ⟨fs, hr, hrun, hended, hW, hsame⟩ := X2.leave (v := some (.int (0 : Int32))) (fun h => by rw [Bd.returns] at h; cases h)
  refine ⟨_, _, pre0 _ ?_, hrun, hended, _, _, rfl, ?_, ⟨_, rfl⟩, hW, hsame.mono (by decide) (by decide)⟩
  · show Steps p.tables e below (s₁.setTop (mkF m 0 #[.val (.ref w1)] [])) _
    refine XS.aloadN X0.here hx rfl (hb hby d2_0) rfl rfl ?_
    show Steps p.tables e below (s₁.setTop (mkF m 1 #[.val (.ref w1)] [(.ref w1)])) _
    refine st2 _ ?_
    show Steps p.tables e below (T2.setTop (mkF m 4 #[.val (.ref w1)] [(.int (0 : Int32))])) _
    exact retN X2 hx (t := .boolean) Bd.returns (by simp) (hb hby d2_4) hr
  · show Q_rm2_0 Z w1 h0 n0 _ T2.heap _
    rw [e2]
    exact ⟨rfl, N0, rfl⟩
theorem d3_0 : decode prog_21_method_7_code 0 = .ok (.aload_n 0, 1) := by decide +kernel
theorem d3_1 : decode prog_21_method_7_code 1 = .ok (.getfield 70, 3) := by decide +kernel
theorem d3_4 : decode prog_21_method_7_code 4 = .ok (.ireturn, 1) := by decide +kernel
theorem ef_3_3 (m : MethodId) (x0 : Addr) : entryFrame m #[(.ref x0)] 1 = mkF m 0 #[.val (.ref x0)] [] := by first | (simp [entryFrame, mkF, argsToLocals, Value.category]; done) | rfl
def Q_rm3_0 (Z : State) (w1 : Addr) (h0 : Heap) (n0 : Nat) (v : Option Value) (h : Heap) (L : List Loc) : Prop := v = some (.int (0 : Int32)) ∧ Fr n0 L ∧ h = h0
set_option maxRecDepth 65536 in
set_option maxHeartbeats 40000000 in
theorem rm3_0 (l : Launch) (Z : State) (a0 : Array Value) (hw : ∀ d ∈ tables_1, d.before a0 Z = true) (ws : List Jvm.Cond) (w1 : Addr) (h0 : Heap) (n0 : Nat) (OL0 : Old Z n0 h0) (pr1 : Fld Z Z.heap w1 "com/example/tarcal/tarcal/schedules/Basis" "byTimeOfUse" "Z" (.int (0 : Int32))) :
    MetFree l (⟨"com/example/tarcal/tarcal/schedules/Basis", "byTimeOfUse", "()Z"⟩ : MethodName) (head1 (Jvm.Cond.code (⟨"com/example/tarcal/tarcal/schedules/Basis", "byTimeOfUse", "()Z"⟩ : MethodName) prog_21_method_7_code 1 (some .boolean) :: ws) ({ frames := 0, cells := 0, slots := 0, locals := 0 } : Room)) (fun a U => a = #[(.ref w1)] ∧ Z.Warmed39 U.vm ∧ U.heap = h0) (fun _ _ _ _ _ => True) (fun _ U o U' => ∃ v L, o = .returned v ∧ Q_rm3_0 Z w1 h0 n0 v U'.heap L ∧ FrameEnd U o U' L ({ frames := 0, cells := 0, slots := 0, locals := 0 } : Room).cells ({ frames := 0, cells := 0, slots := 0, locals := 0 } : Room).slots) := by
  refine MetFree.of_bodySF (plainFor_of_name pn_0) hisR ?_
  intro p e s m args below meth c s₁ Bd hml0 hP hK
  obtain ⟨rfl, hZ, hh⟩ := hP
  have hx := Bd.exec
  have hby := Bd.bytes
  have hml : c.maxLocals = 1 := hml0
  have hown : s.vm.findClass "com/example/tarcal/tarcal/schedules/Basis" = some m.cls := findClass_of_methodNamed Bd.named
  have hnm := (name_of_methodNamed Bd.named Bd.method).1
  have X0 : Stand p l e ({ frames := 0, cells := 0, slots := 0, locals := 0 } : Room) s m #[(.ref w1)] below meth c s₁ [] 0 0 := Stand.of_body Bd
  have e0 : s₁.heap = h0 := by rw [← hh, Bd.state]; rfl
  have N0 := Fr.nil n0
  have pre0 : ∀ t, Steps p.tables e below (s₁.setTop (mkF m 0 #[.val (.ref w1)] [])) t → Steps p.tables e below (s₁.setTop (entryFrame m #[(.ref w1)] 1)) t := fun t k => castTop (ef_3_3 m w1) k
  obtain ⟨T2, X2, e2, st2⟩ := getF X0 hx hZ hown (host := "") (Or.inl (wd49 hw)) Via.refl e0 (pr1.ext OL0.2) (g := (mkF m 1 #[.val (.ref w1)] [(.ref w1)])) rfl rfl (hb hby d3_1)
  obtain ⟨fs, hr, hrun, hended, hW, hsame⟩ := X2.leave (v := some (.int (0 : Int32))) (fun h => by rw [Bd.returns] at h; cases h)
  refine ⟨_, _, pre0 _ ?_, hrun, hended, _, _, rfl, ?_, ⟨_, rfl⟩, hW, hsame.mono (by decide) (by decide)⟩
  · show Steps p.tables e below (s₁.setTop (mkF m 0 #[.val (.ref w1)] [])) _
    refine XS.aloadN X0.here hx rfl (hb hby d3_0) rfl rfl ?_
    show Steps p.tables e below (s₁.setTop (mkF m 1 #[.val (.ref w1)] [(.ref w1)])) _
    refine st2 _ ?_
    show Steps p.tables e below (T2.setTop (mkF m 4 #[.val (.ref w1)] [(.int (0 : Int32))])) _
    exact retN X2 hx (t := .boolean) Bd.returns (by simp) (hb hby d3_4) hr
  · show Q_rm3_0 Z w1 h0 n0 _ T2.heap _
    rw [e2]
    exact ⟨rfl, N0, rfl⟩
theorem d4_0 : decode prog_21_method_8_code 0 = .ok (.aload_n 0, 1) := by decide +kernel
theorem d4_1 : decode prog_21_method_8_code 1 = .ok (.getstatic 34, 3) := by decide +kernel
theorem d4_4 : decode prog_21_method_8_code 4 = .ok (.if_acmp .ne 7, 3) := by decide +kernel
theorem d4_11 : decode prog_21_method_8_code 11 = .ok (.iconst 0, 1) := by decide +kernel
theorem d4_12 : decode prog_21_method_8_code 12 = .ok (.ireturn, 1) := by decide +kernel
theorem ef_4_4 (m : MethodId) (x0 : Addr) : entryFrame m #[(.ref x0)] 1 = mkF m 0 #[.val (.ref x0)] [] := by first | (simp [entryFrame, mkF, argsToLocals, Value.category]; done) | rfl
def Q_rm4_0 (Z : State) (w1 : Addr) (w2 : Addr) (h0 : Heap) (n0 : Nat) (v : Option Value) (h : Heap) (L : List Loc) : Prop := v = some (.int (0 : Int32)) ∧ Fr n0 L ∧ h = h0
set_option maxRecDepth 65536 in
set_option maxHeartbeats 40000000 in
theorem rm4_0 (l : Launch) (Z : State) (a0 : Array Value) (hw : ∀ d ∈ tables_1, d.before a0 Z = true) (ws : List Jvm.Cond) (w1 : Addr) (w2 : Addr) (h0 : Heap) (n0 : Nat) (OL0 : Old Z n0 h0) (pr1 : Sta Z Z.heap "com/example/tarcal/tarcal/schedules/Basis" "ISO_COSTS" "Lcom/example/tarcal/tarcal/schedules/Basis;" (.ref w2)) (pr2 : w1 ≠ w2) :
    MetFree l (⟨"com/example/tarcal/tarcal/schedules/Basis", "passedThrough", "()Z"⟩ : MethodName) (head1 (Jvm.Cond.code (⟨"com/example/tarcal/tarcal/schedules/Basis", "passedThrough", "()Z"⟩ : MethodName) prog_21_method_8_code 1 (some .boolean) :: ws) ({ frames := 0, cells := 0, slots := 0, locals := 0 } : Room)) (fun a U => a = #[(.ref w1)] ∧ Z.Warmed39 U.vm ∧ U.heap = h0) (fun _ _ _ _ _ => True) (fun _ U o U' => ∃ v L, o = .returned v ∧ Q_rm4_0 Z w1 w2 h0 n0 v U'.heap L ∧ FrameEnd U o U' L ({ frames := 0, cells := 0, slots := 0, locals := 0 } : Room).cells ({ frames := 0, cells := 0, slots := 0, locals := 0 } : Room).slots) := by
  refine MetFree.of_bodySF (plainFor_of_name pn_0) hisR ?_
  intro p e s m args below meth c s₁ Bd hml0 hP hK
  obtain ⟨rfl, hZ, hh⟩ := hP
  have hx := Bd.exec
  have hby := Bd.bytes
  have hml : c.maxLocals = 1 := hml0
  have hown : s.vm.findClass "com/example/tarcal/tarcal/schedules/Basis" = some m.cls := findClass_of_methodNamed Bd.named
  have hnm := (name_of_methodNamed Bd.named Bd.method).1
  have X0 : Stand p l e ({ frames := 0, cells := 0, slots := 0, locals := 0 } : Room) s m #[(.ref w1)] below meth c s₁ [] 0 0 := Stand.of_body Bd
  have e0 : s₁.heap = h0 := by rw [← hh, Bd.state]; rfl
  have N0 := Fr.nil n0
  have pre0 : ∀ t, Steps p.tables e below (s₁.setTop (mkF m 0 #[.val (.ref w1)] [])) t → Steps p.tables e below (s₁.setTop (entryFrame m #[(.ref w1)] 1)) t := fun t k => castTop (ef_4_4 m w1) k
  obtain ⟨T3, X3, e3, st3⟩ := getS2 X0 hx hZ hown (host := "") (Or.inl (wd56 hw)) Via.refl e0 (pr1.ext OL0.2) (g := (mkF m 1 #[.val (.ref w1)] [(.ref w1)])) rfl (hb hby d4_1)
  obtain ⟨fs, hr, hrun, hended, hW, hsame⟩ := X3.leave (v := some (.int (0 : Int32))) (fun h => by rw [Bd.returns] at h; cases h)
  refine ⟨_, _, pre0 _ ?_, hrun, hended, _, _, rfl, ?_, ⟨_, rfl⟩, hW, hsame.mono (by decide) (by decide)⟩
  · show Steps p.tables e below (s₁.setTop (mkF m 0 #[.val (.ref w1)] [])) _
    refine XS.aloadN X0.here hx rfl (hb hby d4_0) rfl rfl ?_
    show Steps p.tables e below (s₁.setTop (mkF m 1 #[.val (.ref w1)] [(.ref w1)])) _
    refine st3 _ ?_
    show Steps p.tables e below (T3.setTop (mkF m 4 #[.val (.ref w1)] [(.ref w2), (.ref w1)])) _
    refine Jvm.RoadKit.acmp (g := (mkF m 4 #[.val (.ref w1)] [(.ref w2), (.ref w1)])) X3 hx rfl rfl rfl (pc0 := 4) (pc' := 11) (same := false) rfl (hb hby d4_4) rfl (decide_eq_false fun q => pr2 (Value.ref.inj q)) (by decide) (by decide) ?_
    show Steps p.tables e below (T3.setTop (mkF m 11 #[.val (.ref w1)] [])) _
    refine XS.iconst X3.here hx rfl (hb hby d4_11) ?_
    show Steps p.tables e below (T3.setTop (mkF m 12 #[.val (.ref w1)] [(.int (0 : Int32))])) _
    exact retN X3 hx (t := .boolean) Bd.returns (by simp) (hb hby d4_12) hr
  · show Q_rm4_0 Z w1 w2 h0 n0 _ T3.heap _
    rw [e3]
    exact ⟨rfl, N0, rfl⟩
set_option maxRecDepth 65536 in
set_option maxHeartbeats 40000000 in
theorem rm0_7 (l : Launch) (Z : State) (a0 : Array Value) (hw : ∀ d ∈ tables_1, d.before a0 Z = true) (ws : List Jvm.Cond) (p1 : Int32) (w_DAYS : Addr) (w_ENERGY : Addr) (w_ON_PEAK_ENERGY : Addr) (w_OFF_PEAK_ENERGY : Addr) (w_BILLING_DEMAND_DAYS : Addr) (w_METERED_DEMAND_DAYS : Addr) (w_FIXTURE_DAYS : Addr) (w_HIGHEST_HOUR_ENERGY : Addr) (w_GAS_INDEXED_ENERGY : Addr) (w_POOL_PRICED_ENERGY : Addr) (w_ISO_COSTS : Addr) (w_DISTRIBUTION_ACCESS_CHARGES : Addr) (h0 : Heap) (n0 : Nat) (OL0 : Old Z n0 h0) (pr1 : Sta Z Z.heap "com/example/tarcal/tarcal/schedules/Basis" "DAYS" "Lcom/example/tarcal/tarcal/schedules/Basis;" (.ref w_DAYS)) (pr2 : Exa Z Z.heap w_DAYS "com/example/tarcal/tarcal/schedules/Basis") (pr3 : Sta Z Z.heap "com/example/tarcal/tarcal/schedules/Basis" "ENERGY" "Lcom/example/tarcal/tarcal/schedules/Basis;" (.ref w_ENERGY)) (pr4 : Exa Z Z.heap w_ENERGY "com/example/tarcal/tarcal/schedules/Basis") (pr5 : Sta Z Z.heap "com/example/tarcal/tarcal/schedules/Basis" "ON_PEAK_ENERGY" "Lcom/example/tarcal/tarcal/schedules/Basis;" (.ref w_ON_PEAK_ENERGY)) (pr6 : Exa Z Z.heap w_ON_PEAK_ENERGY "com/example/tarcal/tarcal/schedules/Basis") (pr7 : Sta Z Z.heap "com/example/tarcal/tarcal/schedules/Basis" "OFF_PEAK_ENERGY" "Lcom/example/tarcal/tarcal/schedules/Basis;" (.ref w_OFF_PEAK_ENERGY)) (pr8 : Exa Z Z.heap w_OFF_PEAK_ENERGY "com/example/tarcal/tarcal/schedules/Basis") (pr9 : Sta Z Z.heap "com/example/tarcal/tarcal/schedules/Basis" "BILLING_DEMAND_DAYS" "Lcom/example/tarcal/tarcal/schedules/Basis;" (.ref w_BILLING_DEMAND_DAYS)) (pr10 : Exa Z Z.heap w_BILLING_DEMAND_DAYS "com/example/tarcal/tarcal/schedules/Basis") (pr11 : Sta Z Z.heap "com/example/tarcal/tarcal/schedules/Basis" "METERED_DEMAND_DAYS" "Lcom/example/tarcal/tarcal/schedules/Basis;" (.ref w_METERED_DEMAND_DAYS)) (pr12 : Exa Z Z.heap w_METERED_DEMAND_DAYS "com/example/tarcal/tarcal/schedules/Basis") (pr13 : Sta Z Z.heap "com/example/tarcal/tarcal/schedules/Basis" "FIXTURE_DAYS" "Lcom/example/tarcal/tarcal/schedules/Basis;" (.ref w_FIXTURE_DAYS)) (pr14 : Exa Z Z.heap w_FIXTURE_DAYS "com/example/tarcal/tarcal/schedules/Basis") (pr15 : Sta Z Z.heap "com/example/tarcal/tarcal/schedules/Basis" "HIGHEST_HOUR_ENERGY" "Lcom/example/tarcal/tarcal/schedules/Basis;" (.ref w_HIGHEST_HOUR_ENERGY)) (pr16 : Exa Z Z.heap w_HIGHEST_HOUR_ENERGY "com/example/tarcal/tarcal/schedules/Basis") (pr17 : Sta Z Z.heap "com/example/tarcal/tarcal/schedules/Basis" "GAS_INDEXED_ENERGY" "Lcom/example/tarcal/tarcal/schedules/Basis;" (.ref w_GAS_INDEXED_ENERGY)) (pr18 : Exa Z Z.heap w_GAS_INDEXED_ENERGY "com/example/tarcal/tarcal/schedules/Basis") (pr19 : Sta Z Z.heap "com/example/tarcal/tarcal/schedules/Basis" "POOL_PRICED_ENERGY" "Lcom/example/tarcal/tarcal/schedules/Basis;" (.ref w_POOL_PRICED_ENERGY)) (pr20 : Exa Z Z.heap w_POOL_PRICED_ENERGY "com/example/tarcal/tarcal/schedules/Basis") (pr21 : Sta Z Z.heap "com/example/tarcal/tarcal/schedules/Basis" "ISO_COSTS" "Lcom/example/tarcal/tarcal/schedules/Basis;" (.ref w_ISO_COSTS)) (pr22 : Exa Z Z.heap w_ISO_COSTS "com/example/tarcal/tarcal/schedules/Basis") (pr23 : Sta Z Z.heap "com/example/tarcal/tarcal/schedules/Basis" "DISTRIBUTION_ACCESS_CHARGES" "Lcom/example/tarcal/tarcal/schedules/Basis;" (.ref w_DISTRIBUTION_ACCESS_CHARGES)) (pr24 : Exa Z Z.heap w_DISTRIBUTION_ACCESS_CHARGES "com/example/tarcal/tarcal/schedules/Basis") (pr25 : ((p1 &&& (2147483647 : Int32)) % (12 : Int32)) = (7 : Int32)) (pr26 : Fld Z Z.heap w_HIGHEST_HOUR_ENERGY "com/example/tarcal/tarcal/schedules/Basis" "onDemand" "Z" (.int (0 : Int32))) (pr27 : Fld Z Z.heap w_HIGHEST_HOUR_ENERGY "com/example/tarcal/tarcal/schedules/Basis" "byTimeOfUse" "Z" (.int (0 : Int32))) (pr28 : w_HIGHEST_HOUR_ENERGY ≠ w_ISO_COSTS) :
    MetFree l x (head1 (Jvm.Cond.code x code maxLocals ret :: ws) room_1) (fun a U => a = #[(.int p1)] ∧ Z.Warmed39 U.vm ∧ U.heap = h0) (fun _ _ _ _ _ => True) (fun _ U o U' => ∃ v L, o = .returned v ∧ Q0 n0 v L ∧ FrameEnd U o U' L 16 128) := by
  refine MetFree.of_bodySF (plainFor_of_name pn_1) hisR ?_
  intro p e s m args below meth c s₁ Bd hml0 hP hK
  obtain ⟨rfl, hZ, hh⟩ := hP
  have hx := Bd.exec
  have hby := Bd.bytes
  have hml : c.maxLocals = 6 := hml0
  have hown : s.vm.findClass "com/example/tarcal/tarcal/schedules/BasisPerPeriodPinLaw" = some m.cls := findClass_of_methodNamed Bd.named
  have hnm := (name_of_methodNamed Bd.named Bd.method).1
  have X0 : Stand p l e room_1 s m #[(.int p1)] below meth c s₁ [] 0 0 := Stand.of_body Bd
  have e0 : s₁.heap = h0 := by rw [← hh, Bd.state]; rfl
  have N0 := Fr.nil n0
  have pre0 : ∀ t, Steps p.tables e below (s₁.setTop (mkF m 0 #[.val (.int p1), .unset, .unset, .unset, .unset, .unset] [])) t → Steps p.tables e below (s₁.setTop (entryFrame m #[(.int p1)] maxLocals)) t := fun t k => castTop (ef_0_1 m p1) k
  obtain ⟨T1, h1, k1, X1, e1, E1, A1, O1, st1⟩ := newR X0 hx hZ hown (wd0 hw) (wd1 hw) e0 (g := (mkF m 2 #[.val (.int p1), .unset, .unset, .unset, .unset, .unset] [(.int (12 : Int32))])) rfl (hb hby at_2) rfl (by decide) (cap := 12) (by decide) (by decide) (by decide) (by decide)
  obtain ⟨b1, g1⟩ : ∃ z, z = h0.size := ⟨_, rfl⟩
  rw [← g1] at A1 st1
  have V1 : Arv Z h1 b1 k1 (.object "com/example/tarcal/tarcal/schedules/Basis") (12 : Int32) [.null, .null, .null, .null, .null, .null, .null, .null, .null, .null, .null, .null] .null := (Arv.new A1 (by decide)).pad (pad_rep [] .null 12)
  have g_b1 : n0 ≤ b1 := (Nat.le_trans (Nat.le_trans (Nat.le_of_eq OL0.1.symm) OL0.2.1) (Nat.le_of_eq g1.symm))
  have sz_b1 : h0.size ≤ b1 := (Nat.le_trans (Keep.refl h0 []).1 (Nat.le_of_eq g1.symm))
  have KK1 : Keep h0 h1 [] := (Keep.refl h0 []).ext E1
  have OL1 := OL0.ext E1
  obtain ⟨T2, X2, e2, st2⟩ := getS2 X1 hx hZ hown (host := "") (Or.inl (wd2 hw)) Via.refl e1 (pr1.ext OL1.2) (g := (mkF m 7 #[.val (.int p1), .unset, .unset, .unset, .unset, .unset] [(.int (0 : Int32)), (.ref b1), (.ref b1)])) rfl (hb hby at_7)
  obtain ⟨cl3, Ar3, q3, S3, M3, Hs3, G3⟩ := V1
  have hin3 : ¬ ((0 : Int32) < 0 ∨ cl3.slots.size ≤ ((0 : Int32)).toNatClampNeg) := inb_of S3 ⟨by decide, by decide⟩
  obtain ⟨T4, h4, X4, e4, W4, st4⟩ := stR X2 hx hZ e2 Ar3 (j := (0 : Int32)) hin3 rfl (Sto.ofV Ar3 q3 O1 (Ins.self (pr2.ext OL1.2))) (g := (mkF m 10 #[.val (.int p1), .unset, .unset, .unset, .unset, .unset] [(.ref w_DAYS), (.int (0 : Int32)), (.ref b1), (.ref b1)])) rfl rfl (hb hby at_10)
  have V4 : Arv Z h4 b1 k1 (.object "com/example/tarcal/tarcal/schedules/Basis") (12 : Int32) [(.ref w_DAYS), .null, .null, .null, .null, .null, .null, .null, .null, .null, .null, .null] .null := Arv.set Ar3 q3 S3 M3 Hs3 G3 rfl W4 0 rfl (Nat.le_of_ble_eq_true rfl)
  have KK4 : Keep h0 h4 [] := KK1.wr W4 (Or.inr sz_b1)
  have OL4 := OL1.wr W4 g_b1
  have N4 := Fr.snoc X4 N0 g_b1
  obtain ⟨T5, X5, e5, st5⟩ := getS2 X4 hx hZ hown (host := "") (Or.inl (wd6 hw)) Via.refl e4 (pr3.ext OL4.2) (g := (mkF m 13 #[.val (.int p1), .unset, .unset, .unset, .unset, .unset] [(.int (1 : Int32)), (.ref b1), (.ref b1)])) rfl (hb hby at_13)
  obtain ⟨cl6, Ar6, q6, S6, M6, Hs6, G6⟩ := V4
  have hin6 : ¬ ((1 : Int32) < 0 ∨ cl6.slots.size ≤ ((1 : Int32)).toNatClampNeg) := inb_of S6 ⟨by decide, by decide⟩
  obtain ⟨T7, h7, X7, e7, W7, st7⟩ := stR X5 hx hZ e5 Ar6 (j := (1 : Int32)) hin6 rfl (Sto.ofV Ar6 q6 O1 (Ins.self (pr4.ext OL4.2))) (g := (mkF m 16 #[.val (.int p1), .unset, .unset, .unset, .unset, .unset] [(.ref w_ENERGY), (.int (1 : Int32)), (.ref b1), (.ref b1)])) rfl rfl (hb hby at_16)
  have V7 : Arv Z h7 b1 k1 (.object "com/example/tarcal/tarcal/schedules/Basis") (12 : Int32) [(.ref w_DAYS), (.ref w_ENERGY), .null, .null, .null, .null, .null, .null, .null, .null, .null, .null] .null := Arv.set Ar6 q6 S6 M6 Hs6 G6 rfl W7 1 rfl (Nat.le_of_ble_eq_true rfl)
  have KK7 : Keep h0 h7 [] := KK4.wr W7 (Or.inr sz_b1)
  have OL7 := OL4.wr W7 g_b1
  have N7 := Fr.snoc X7 N4 g_b1
  obtain ⟨T8, X8, e8, st8⟩ := getS2 X7 hx hZ hown (host := "") (Or.inl (wd8 hw)) Via.refl e7 (pr5.ext OL7.2) (g := (mkF m 19 #[.val (.int p1), .unset, .unset, .unset, .unset, .unset] [(.int (2 : Int32)), (.ref b1), (.ref b1)])) rfl (hb hby at_19)
  obtain ⟨cl9, Ar9, q9, S9, M9, Hs9, G9⟩ := V7
  have hin9 : ¬ ((2 : Int32) < 0 ∨ cl9.slots.size ≤ ((2 : Int32)).toNatClampNeg) := inb_of S9 ⟨by decide, by decide⟩
  obtain ⟨T10, h10, X10, e10, W10, st10⟩ := stR X8 hx hZ e8 Ar9 (j := (2 : Int32)) hin9 rfl (Sto.ofV Ar9 q9 O1 (Ins.self (pr6.ext OL7.2))) (g := (mkF m 22 #[.val (.int p1), .unset, .unset, .unset, .unset, .unset] [(.ref w_ON_PEAK_ENERGY), (.int (2 : Int32)), (.ref b1), (.ref b1)])) rfl rfl (hb hby at_22)
  have V10 : Arv Z h10 b1 k1 (.object "com/example/tarcal/tarcal/schedules/Basis") (12 : Int32) [(.ref w_DAYS), (.ref w_ENERGY), (.ref w_ON_PEAK_ENERGY), .null, .null, .null, .null, .null, .null, .null, .null, .null] .null := Arv.set Ar9 q9 S9 M9 Hs9 G9 rfl W10 2 rfl (Nat.le_of_ble_eq_true rfl)
  have KK10 : Keep h0 h10 [] := KK7.wr W10 (Or.inr sz_b1)
  have OL10 := OL7.wr W10 g_b1
  have N10 := Fr.snoc X10 N7 g_b1
  obtain ⟨T11, X11, e11, st11⟩ := getS2 X10 hx hZ hown (host := "") (Or.inl (wd10 hw)) Via.refl e10 (pr7.ext OL10.2) (g := (mkF m 25 #[.val (.int p1), .unset, .unset, .unset, .unset, .unset] [(.int (3 : Int32)), (.ref b1), (.ref b1)])) rfl (hb hby at_25)
  obtain ⟨cl12, Ar12, q12, S12, M12, Hs12, G12⟩ := V10
  have hin12 : ¬ ((3 : Int32) < 0 ∨ cl12.slots.size ≤ ((3 : Int32)).toNatClampNeg) := inb_of S12 ⟨by decide, by decide⟩
  obtain ⟨T13, h13, X13, e13, W13, st13⟩ := stR X11 hx hZ e11 Ar12 (j := (3 : Int32)) hin12 rfl (Sto.ofV Ar12 q12 O1 (Ins.self (pr8.ext OL10.2))) (g := (mkF m 28 #[.val (.int p1), .unset, .unset, .unset, .unset, .unset] [(.ref w_OFF_PEAK_ENERGY), (.int (3 : Int32)), (.ref b1), (.ref b1)])) rfl rfl (hb hby at_28)
  have V13 : Arv Z h13 b1 k1 (.object "com/example/tarcal/tarcal/schedules/Basis") (12 : Int32) [(.ref w_DAYS), (.ref w_ENERGY), (.ref w_ON_PEAK_ENERGY), (.ref w_OFF_PEAK_ENERGY), .null, .null, .null, .null, .null, .null, .null, .null] .null := Arv.set Ar12 q12 S12 M12 Hs12 G12 rfl W13 3 rfl (Nat.le_of_ble_eq_true rfl)
  have KK13 : Keep h0 h13 [] := KK10.wr W13 (Or.inr sz_b1)
  have OL13 := OL10.wr W13 g_b1
  have N13 := Fr.snoc X13 N10 g_b1
  obtain ⟨T14, X14, e14, st14⟩ := getS2 X13 hx hZ hown (host := "") (Or.inl (wd12 hw)) Via.refl e13 (pr9.ext OL13.2) (g := (mkF m 31 #[.val (.int p1), .unset, .unset, .unset, .unset, .unset] [(.int (4 : Int32)), (.ref b1), (.ref b1)])) rfl (hb hby at_31)
  obtain ⟨cl15, Ar15, q15, S15, M15, Hs15, G15⟩ := V13
  have hin15 : ¬ ((4 : Int32) < 0 ∨ cl15.slots.size ≤ ((4 : Int32)).toNatClampNeg) := inb_of S15 ⟨by decide, by decide⟩
  obtain ⟨T16, h16, X16, e16, W16, st16⟩ := stR X14 hx hZ e14 Ar15 (j := (4 : Int32)) hin15 rfl (Sto.ofV Ar15 q15 O1 (Ins.self (pr10.ext OL13.2))) (g := (mkF m 34 #[.val (.int p1), .unset, .unset, .unset, .unset, .unset] [(.ref w_BILLING_DEMAND_DAYS), (.int (4 : Int32)), (.ref b1), (.ref b1)])) rfl rfl (hb hby at_34)
  have V16 : Arv Z h16 b1 k1 (.object "com/example/tarcal/tarcal/schedules/Basis") (12 : Int32) [(.ref w_DAYS), (.ref w_ENERGY), (.ref w_ON_PEAK_ENERGY), (.ref w_OFF_PEAK_ENERGY), (.ref w_BILLING_DEMAND_DAYS), .null, .null, .null, .null, .null, .null, .null] .null := Arv.set Ar15 q15 S15 M15 Hs15 G15 rfl W16 4 rfl (Nat.le_of_ble_eq_true rfl)
  have KK16 : Keep h0 h16 [] := KK13.wr W16 (Or.inr sz_b1)
  have OL16 := OL13.wr W16 g_b1
  have N16 := Fr.snoc X16 N13 g_b1
  obtain ⟨T17, X17, e17, st17⟩ := getS2 X16 hx hZ hown (host := "") (Or.inl (wd14 hw)) Via.refl e16 (pr11.ext OL16.2) (g := (mkF m 37 #[.val (.int p1), .unset, .unset, .unset, .unset, .unset] [(.int (5 : Int32)), (.ref b1), (.ref b1)])) rfl (hb hby at_37)
  obtain ⟨cl18, Ar18, q18, S18, M18, Hs18, G18⟩ := V16
  have hin18 : ¬ ((5 : Int32) < 0 ∨ cl18.slots.size ≤ ((5 : Int32)).toNatClampNeg) := inb_of S18 ⟨by decide, by decide⟩
  obtain ⟨T19, h19, X19, e19, W19, st19⟩ := stR X17 hx hZ e17 Ar18 (j := (5 : Int32)) hin18 rfl (Sto.ofV Ar18 q18 O1 (Ins.self (pr12.ext OL16.2))) (g := (mkF m 40 #[.val (.int p1), .unset, .unset, .unset, .unset, .unset] [(.ref w_METERED_DEMAND_DAYS), (.int (5 : Int32)), (.ref b1), (.ref b1)])) rfl rfl (hb hby at_40)
  have V19 : Arv Z h19 b1 k1 (.object "com/example/tarcal/tarcal/schedules/Basis") (12 : Int32) [(.ref w_DAYS), (.ref w_ENERGY), (.ref w_ON_PEAK_ENERGY), (.ref w_OFF_PEAK_ENERGY), (.ref w_BILLING_DEMAND_DAYS), (.ref w_METERED_DEMAND_DAYS), .null, .null, .null, .null, .null, .null] .null := Arv.set Ar18 q18 S18 M18 Hs18 G18 rfl W19 5 rfl (Nat.le_of_ble_eq_true rfl)
  have KK19 : Keep h0 h19 [] := KK16.wr W19 (Or.inr sz_b1)
  have OL19 := OL16.wr W19 g_b1
  have N19 := Fr.snoc X19 N16 g_b1
  obtain ⟨T20, X20, e20, st20⟩ := getS2 X19 hx hZ hown (host := "") (Or.inl (wd16 hw)) Via.refl e19 (pr13.ext OL19.2) (g := (mkF m 44 #[.val (.int p1), .unset, .unset, .unset, .unset, .unset] [(.int (6 : Int32)), (.ref b1), (.ref b1)])) rfl (hb hby at_44)
  obtain ⟨cl21, Ar21, q21, S21, M21, Hs21, G21⟩ := V19
  have hin21 : ¬ ((6 : Int32) < 0 ∨ cl21.slots.size ≤ ((6 : Int32)).toNatClampNeg) := inb_of S21 ⟨by decide, by decide⟩
  obtain ⟨T22, h22, X22, e22, W22, st22⟩ := stR X20 hx hZ e20 Ar21 (j := (6 : Int32)) hin21 rfl (Sto.ofV Ar21 q21 O1 (Ins.self (pr14.ext OL19.2))) (g := (mkF m 47 #[.val (.int p1), .unset, .unset, .unset, .unset, .unset] [(.ref w_FIXTURE_DAYS), (.int (6 : Int32)), (.ref b1), (.ref b1)])) rfl rfl (hb hby at_47)
  have V22 : Arv Z h22 b1 k1 (.object "com/example/tarcal/tarcal/schedules/Basis") (12 : Int32) [(.ref w_DAYS), (.ref w_ENERGY), (.ref w_ON_PEAK_ENERGY), (.ref w_OFF_PEAK_ENERGY), (.ref w_BILLING_DEMAND_DAYS), (.ref w_METERED_DEMAND_DAYS), (.ref w_FIXTURE_DAYS), .null, .null, .null, .null, .null] .null := Arv.set Ar21 q21 S21 M21 Hs21 G21 rfl W22 6 rfl (Nat.le_of_ble_eq_true rfl)
  have KK22 : Keep h0 h22 [] := KK19.wr W22 (Or.inr sz_b1)
  have OL22 := OL19.wr W22 g_b1
  have N22 := Fr.snoc X22 N19 g_b1
  obtain ⟨T23, X23, e23, st23⟩ := getS2 X22 hx hZ hown (host := "") (Or.inl (wd18 hw)) Via.refl e22 (pr15.ext OL22.2) (g := (mkF m 51 #[.val (.int p1), .unset, .unset, .unset, .unset, .unset] [(.int (7 : Int32)), (.ref b1), (.ref b1)])) rfl (hb hby at_51)
  obtain ⟨cl24, Ar24, q24, S24, M24, Hs24, G24⟩ := V22
  have hin24 : ¬ ((7 : Int32) < 0 ∨ cl24.slots.size ≤ ((7 : Int32)).toNatClampNeg) := inb_of S24 ⟨by decide, by decide⟩
  obtain ⟨T25, h25, X25, e25, W25, st25⟩ := stR X23 hx hZ e23 Ar24 (j := (7 : Int32)) hin24 rfl (Sto.ofV Ar24 q24 O1 (Ins.self (pr16.ext OL22.2))) (g := (mkF m 54 #[.val (.int p1), .unset, .unset, .unset, .unset, .unset] [(.ref w_HIGHEST_HOUR_ENERGY), (.int (7 : Int32)), (.ref b1), (.ref b1)])) rfl rfl (hb hby at_54)
  have V25 : Arv Z h25 b1 k1 (.object "com/example/tarcal/tarcal/schedules/Basis") (12 : Int32) [(.ref w_DAYS), (.ref w_ENERGY), (.ref w_ON_PEAK_ENERGY), (.ref w_OFF_PEAK_ENERGY), (.ref w_BILLING_DEMAND_DAYS), (.ref w_METERED_DEMAND_DAYS), (.ref w_FIXTURE_DAYS), (.ref w_HIGHEST_HOUR_ENERGY), .null, .null, .null, .null] .null := Arv.set Ar24 q24 S24 M24 Hs24 G24 rfl W25 7 rfl (Nat.le_of_ble_eq_true rfl)
  have KK25 : Keep h0 h25 [] := KK22.wr W25 (Or.inr sz_b1)
  have OL25 := OL22.wr W25 g_b1
  have N25 := Fr.snoc X25 N22 g_b1
  obtain ⟨T26, X26, e26, st26⟩ := getS2 X25 hx hZ hown (host := "") (Or.inl (wd20 hw)) Via.refl e25 (pr17.ext OL25.2) (g := (mkF m 58 #[.val (.int p1), .unset, .unset, .unset, .unset, .unset] [(.int (8 : Int32)), (.ref b1), (.ref b1)])) rfl (hb hby at_58)
  obtain ⟨cl27, Ar27, q27, S27, M27, Hs27, G27⟩ := V25
  have hin27 : ¬ ((8 : Int32) < 0 ∨ cl27.slots.size ≤ ((8 : Int32)).toNatClampNeg) := inb_of S27 ⟨by decide, by decide⟩
  obtain ⟨T28, h28, X28, e28, W28, st28⟩ := stR X26 hx hZ e26 Ar27 (j := (8 : Int32)) hin27 rfl (Sto.ofV Ar27 q27 O1 (Ins.self (pr18.ext OL25.2))) (g := (mkF m 61 #[.val (.int p1), .unset, .unset, .unset, .unset, .unset] [(.ref w_GAS_INDEXED_ENERGY), (.int (8 : Int32)), (.ref b1), (.ref b1)])) rfl rfl (hb hby at_61)
  have V28 : Arv Z h28 b1 k1 (.object "com/example/tarcal/tarcal/schedules/Basis") (12 : Int32) [(.ref w_DAYS), (.ref w_ENERGY), (.ref w_ON_PEAK_ENERGY), (.ref w_OFF_PEAK_ENERGY), (.ref w_BILLING_DEMAND_DAYS), (.ref w_METERED_DEMAND_DAYS), (.ref w_FIXTURE_DAYS), (.ref w_HIGHEST_HOUR_ENERGY), (.ref w_GAS_INDEXED_ENERGY), .null, .null, .null] .null := Arv.set Ar27 q27 S27 M27 Hs27 G27 rfl W28 8 rfl (Nat.le_of_ble_eq_true rfl)
  have KK28 : Keep h0 h28 [] := KK25.wr W28 (Or.inr sz_b1)
  have OL28 := OL25.wr W28 g_b1
  have N28 := Fr.snoc X28 N25 g_b1
  obtain ⟨T29, X29, e29, st29⟩ := getS2 X28 hx hZ hown (host := "") (Or.inl (wd22 hw)) Via.refl e28 (pr19.ext OL28.2) (g := (mkF m 65 #[.val (.int p1), .unset, .unset, .unset, .unset, .unset] [(.int (9 : Int32)), (.ref b1), (.ref b1)])) rfl (hb hby at_65)
  obtain ⟨cl30, Ar30, q30, S30, M30, Hs30, G30⟩ := V28
  have hin30 : ¬ ((9 : Int32) < 0 ∨ cl30.slots.size ≤ ((9 : Int32)).toNatClampNeg) := inb_of S30 ⟨by decide, by decide⟩
  obtain ⟨T31, h31, X31, e31, W31, st31⟩ := stR X29 hx hZ e29 Ar30 (j := (9 : Int32)) hin30 rfl (Sto.ofV Ar30 q30 O1 (Ins.self (pr20.ext OL28.2))) (g := (mkF m 68 #[.val (.int p1), .unset, .unset, .unset, .unset, .unset] [(.ref w_POOL_PRICED_ENERGY), (.int (9 : Int32)), (.ref b1), (.ref b1)])) rfl rfl (hb hby at_68)
  have V31 : Arv Z h31 b1 k1 (.object "com/example/tarcal/tarcal/schedules/Basis") (12 : Int32) [(.ref w_DAYS), (.ref w_ENERGY), (.ref w_ON_PEAK_ENERGY), (.ref w_OFF_PEAK_ENERGY), (.ref w_BILLING_DEMAND_DAYS), (.ref w_METERED_DEMAND_DAYS), (.ref w_FIXTURE_DAYS), (.ref w_HIGHEST_HOUR_ENERGY), (.ref w_GAS_INDEXED_ENERGY), (.ref w_POOL_PRICED_ENERGY), .null, .null] .null := Arv.set Ar30 q30 S30 M30 Hs30 G30 rfl W31 9 rfl (Nat.le_of_ble_eq_true rfl)
  have KK31 : Keep h0 h31 [] := KK28.wr W31 (Or.inr sz_b1)
  have OL31 := OL28.wr W31 g_b1
  have N31 := Fr.snoc X31 N28 g_b1
  obtain ⟨T32, X32, e32, st32⟩ := getS2 X31 hx hZ hown (host := "") (Or.inl (wd24 hw)) Via.refl e31 (pr21.ext OL31.2) (g := (mkF m 72 #[.val (.int p1), .unset, .unset, .unset, .unset, .unset] [(.int (10 : Int32)), (.ref b1), (.ref b1)])) rfl (hb hby at_72)
  obtain ⟨cl33, Ar33, q33, S33, M33, Hs33, G33⟩ := V31
  have hin33 : ¬ ((10 : Int32) < 0 ∨ cl33.slots.size ≤ ((10 : Int32)).toNatClampNeg) := inb_of S33 ⟨by decide, by decide⟩
  obtain ⟨T34, h34, X34, e34, W34, st34⟩ := stR X32 hx hZ e32 Ar33 (j := (10 : Int32)) hin33 rfl (Sto.ofV Ar33 q33 O1 (Ins.self (pr22.ext OL31.2))) (g := (mkF m 75 #[.val (.int p1), .unset, .unset, .unset, .unset, .unset] [(.ref w_ISO_COSTS), (.int (10 : Int32)), (.ref b1), (.ref b1)])) rfl rfl (hb hby at_75)
  have V34 : Arv Z h34 b1 k1 (.object "com/example/tarcal/tarcal/schedules/Basis") (12 : Int32) [(.ref w_DAYS), (.ref w_ENERGY), (.ref w_ON_PEAK_ENERGY), (.ref w_OFF_PEAK_ENERGY), (.ref w_BILLING_DEMAND_DAYS), (.ref w_METERED_DEMAND_DAYS), (.ref w_FIXTURE_DAYS), (.ref w_HIGHEST_HOUR_ENERGY), (.ref w_GAS_INDEXED_ENERGY), (.ref w_POOL_PRICED_ENERGY), (.ref w_ISO_COSTS), .null] .null := Arv.set Ar33 q33 S33 M33 Hs33 G33 rfl W34 10 rfl (Nat.le_of_ble_eq_true rfl)
  have KK34 : Keep h0 h34 [] := KK31.wr W34 (Or.inr sz_b1)
  have OL34 := OL31.wr W34 g_b1
  have N34 := Fr.snoc X34 N31 g_b1
  obtain ⟨T35, X35, e35, st35⟩ := getS2 X34 hx hZ hown (host := "") (Or.inl (wd26 hw)) Via.refl e34 (pr23.ext OL34.2) (g := (mkF m 79 #[.val (.int p1), .unset, .unset, .unset, .unset, .unset] [(.int (11 : Int32)), (.ref b1), (.ref b1)])) rfl (hb hby at_79)
  obtain ⟨cl36, Ar36, q36, S36, M36, Hs36, G36⟩ := V34
  have hin36 : ¬ ((11 : Int32) < 0 ∨ cl36.slots.size ≤ ((11 : Int32)).toNatClampNeg) := inb_of S36 ⟨by decide, by decide⟩
  obtain ⟨T37, h37, X37, e37, W37, st37⟩ := stR X35 hx hZ e35 Ar36 (j := (11 : Int32)) hin36 rfl (Sto.ofV Ar36 q36 O1 (Ins.self (pr24.ext OL34.2))) (g := (mkF m 82 #[.val (.int p1), .unset, .unset, .unset, .unset, .unset] [(.ref w_DISTRIBUTION_ACCESS_CHARGES), (.int (11 : Int32)), (.ref b1), (.ref b1)])) rfl rfl (hb hby at_82)
  have V37 : Arv Z h37 b1 k1 (.object "com/example/tarcal/tarcal/schedules/Basis") (12 : Int32) [(.ref w_DAYS), (.ref w_ENERGY), (.ref w_ON_PEAK_ENERGY), (.ref w_OFF_PEAK_ENERGY), (.ref w_BILLING_DEMAND_DAYS), (.ref w_METERED_DEMAND_DAYS), (.ref w_FIXTURE_DAYS), (.ref w_HIGHEST_HOUR_ENERGY), (.ref w_GAS_INDEXED_ENERGY), (.ref w_POOL_PRICED_ENERGY), (.ref w_ISO_COSTS), (.ref w_DISTRIBUTION_ACCESS_CHARGES)] .null := Arv.set Ar36 q36 S36 M36 Hs36 G36 rfl W37 11 rfl (Nat.le_of_ble_eq_true rfl)
  have KK37 : Keep h0 h37 [] := KK34.wr W37 (Or.inr sz_b1)
  have OL37 := OL34.wr W37 g_b1
  have N37 := Fr.snoc X37 N34 g_b1
  obtain ⟨cl38, Ar38, -, S38, -, Hs38, -⟩ := V37
  have hin38 : ¬ ((7 : Int32) < 0 ∨ cl38.slots.size ≤ ((7 : Int32)).toNatClampNeg) := inb_of S38 ⟨by decide, by decide⟩
  have hat38 : cl38.slots[((7 : Int32)).toNatClampNeg]? = some (.ref w_HIGHEST_HOUR_ENERGY) := Hs38.at hin38 rfl
  obtain ⟨cq39, kq39, q39a, q39b, q39c⟩ := isOf hZ e37 (pr16.ext OL37.2)
  obtain ⟨_, _, ⟨T39, L39, k39, n39⟩, -, X39, ⟨Lc39, hQ39, l39, y39, z39⟩, st39⟩ := X37.virtualBack hx (y := (⟨"com/example/tarcal/tarcal/schedules/Basis", "perPeriod", "()Z"⟩ : MethodName)) (z := (⟨"com/example/tarcal/tarcal/schedules/Basis", "perPeriod", "()Z"⟩ : MethodName)) hown (mvT hZ (wd29 hw)) (mvT hZ (wd30 hw)) (notFace_of_selects (args := #[]) (mvT hZ (wd32 hw))) (mvT hZ (wd32 hw)) (mvT hZ (wd31 hw)) (by decide) (backOf (W := 0) (rm1_1 l Z a0 hw [] w_HIGHEST_HOUR_ENERGY h37 n0 OL37 pr15) hZ (wd33 hw) (wd3 hw) (by decide) (by decide)) q39a q39c (g := (mkF m 122 #[.val (.int p1), .val (.ref b1), .val (.int (7 : Int32)), .val (.ref w_HIGHEST_HOUR_ENERGY), .val (.int (1 : Int32)), .unset] [(.ref w_HIGHEST_HOUR_ENERGY)])) rfl (by rw [hml]; rfl) (Steps.refl _) (argsL := []) (rest := []) (lenOf pd_0 rfl) rfl (by show 2 * 0 + _ ≤ _; exact Nat.le_of_eq rfl) (hb hby at_122) (fun _ _ => ⟨rfl, e37, (by decide : 1 + 0 ≤ _), (by decide : 12 + 0 ≤ _)⟩)
  dsimp only [Pt.U, Pt.locs, Pt.cells, Pt.slots] at X39 l39 y39 z39 st39 hQ39
  subst l39 y39 z39
  obtain ⟨rfl, Nq39, ec39⟩ := hQ39
  have N39 := Fr.app N37 Nq39
  obtain ⟨cq40, kq40, q40a, q40b, q40c⟩ := isOf hZ ec39 (pr16.ext OL37.2)
  obtain ⟨_, _, ⟨T40, L40, k40, n40⟩, -, X40, ⟨Lc40, hQ40, l40, y40, z40⟩, st40⟩ := X39.virtualBack hx (y := (⟨"com/example/tarcal/tarcal/schedules/Basis", "onDemand", "()Z"⟩ : MethodName)) (z := (⟨"com/example/tarcal/tarcal/schedules/Basis", "onDemand", "()Z"⟩ : MethodName)) hown (mvT hZ (wd37 hw)) (mvT hZ (wd38 hw)) (notFace_of_selects (args := #[]) (mvT hZ (wd40 hw))) (mvT hZ (wd40 hw)) (mvT hZ (wd39 hw)) (by decide) (backOf (W := 0) (rm2_0 l Z a0 hw [] w_HIGHEST_HOUR_ENERGY h37 n0 OL37 pr26) hZ (wd41 hw) (wd3 hw) (by decide) (by decide)) q40a q40c (g := (mkF m 142 #[.val (.int p1), .val (.ref b1), .val (.int (7 : Int32)), .val (.ref w_HIGHEST_HOUR_ENERGY), .val (.int (1 : Int32)), .val (.int (1 : Int32))] [(.ref w_HIGHEST_HOUR_ENERGY)])) rfl (by rw [hml]; rfl) (Steps.refl _) (argsL := []) (rest := []) (lenOf pd_0 rfl) rfl (by show 2 * 0 + _ ≤ _; exact Nat.le_of_eq rfl) (hb hby at_142) (fun _ _ => ⟨rfl, ec39, (by decide : 1 + 0 ≤ _), (by decide : 12 + 0 ≤ _)⟩)
  dsimp only [Pt.U, Pt.locs, Pt.cells, Pt.slots] at X40 l40 y40 z40 st40 hQ40
  subst l40 y40 z40
  obtain ⟨rfl, Nq40, ec40⟩ := hQ40
  have N40 := Fr.app N39 Nq40
  obtain ⟨cq41, kq41, q41a, q41b, q41c⟩ := isOf hZ ec40 (pr16.ext OL37.2)
  obtain ⟨_, _, ⟨T41, L41, k41, n41⟩, -, X41, ⟨Lc41, hQ41, l41, y41, z41⟩, st41⟩ := X40.virtualBack hx (y := (⟨"com/example/tarcal/tarcal/schedules/Basis", "byTimeOfUse", "()Z"⟩ : MethodName)) (z := (⟨"com/example/tarcal/tarcal/schedules/Basis", "byTimeOfUse", "()Z"⟩ : MethodName)) hown (mvT hZ (wd44 hw)) (mvT hZ (wd45 hw)) (notFace_of_selects (args := #[]) (mvT hZ (wd47 hw))) (mvT hZ (wd47 hw)) (mvT hZ (wd46 hw)) (by decide) (backOf (W := 0) (rm3_0 l Z a0 hw [] w_HIGHEST_HOUR_ENERGY h37 n0 OL37 pr27) hZ (wd48 hw) (wd3 hw) (by decide) (by decide)) q41a q41c (g := (mkF m 149 #[.val (.int p1), .val (.ref b1), .val (.int (7 : Int32)), .val (.ref w_HIGHEST_HOUR_ENERGY), .val (.int (1 : Int32)), .val (.int (1 : Int32))] [(.ref w_HIGHEST_HOUR_ENERGY)])) rfl (by rw [hml]; rfl) (Steps.refl _) (argsL := []) (rest := []) (lenOf pd_0 rfl) rfl (by show 2 * 0 + _ ≤ _; exact Nat.le_of_eq rfl) (hb hby at_149) (fun _ _ => ⟨rfl, ec40, (by decide : 1 + 0 ≤ _), (by decide : 12 + 0 ≤ _)⟩)
  dsimp only [Pt.U, Pt.locs, Pt.cells, Pt.slots] at X41 l41 y41 z41 st41 hQ41
  subst l41 y41 z41
  obtain ⟨rfl, Nq41, ec41⟩ := hQ41
  have N41 := Fr.app N40 Nq41
  obtain ⟨cq42, kq42, q42a, q42b, q42c⟩ := isOf hZ ec41 (pr16.ext OL37.2)
  obtain ⟨_, _, ⟨T42, L42, k42, n42⟩, -, X42, ⟨Lc42, hQ42, l42, y42, z42⟩, st42⟩ := X41.virtualBack hx (y := (⟨"com/example/tarcal/tarcal/schedules/Basis", "passedThrough", "()Z"⟩ : MethodName)) (z := (⟨"com/example/tarcal/tarcal/schedules/Basis", "passedThrough", "()Z"⟩ : MethodName)) hown (mvT hZ (wd51 hw)) (mvT hZ (wd52 hw)) (notFace_of_selects (args := #[]) (mvT hZ (wd54 hw))) (mvT hZ (wd54 hw)) (mvT hZ (wd53 hw)) (by decide) (backOf (W := 0) (rm4_0 l Z a0 hw [] w_HIGHEST_HOUR_ENERGY w_ISO_COSTS h37 n0 OL37 pr21 pr28) hZ (wd55 hw) (wd3 hw) (by decide) (by decide)) q42a q42c (g := (mkF m 156 #[.val (.int p1), .val (.ref b1), .val (.int (7 : Int32)), .val (.ref w_HIGHEST_HOUR_ENERGY), .val (.int (1 : Int32)), .val (.int (1 : Int32))] [(.ref w_HIGHEST_HOUR_ENERGY)])) rfl (by rw [hml]; rfl) (Steps.refl _) (argsL := []) (rest := []) (lenOf pd_0 rfl) rfl (by show 2 * 0 + _ ≤ _; exact Nat.le_of_eq rfl) (hb hby at_156) (fun _ _ => ⟨rfl, ec41, (by decide : 1 + 0 ≤ _), (by decide : 12 + 0 ≤ _)⟩)
  dsimp only [Pt.U, Pt.locs, Pt.cells, Pt.slots] at X42 l42 y42 z42 st42 hQ42
  subst l42 y42 z42
  obtain ⟨rfl, Nq42, ec42⟩ := hQ42
  have N42 := Fr.app N41 Nq42
  obtain ⟨fs, hr, hrun, hended, hW, hsame⟩ := X42.leave (v := some (.int (1 : Int32))) (fun h => by rw [Bd.returns] at h; cases h)
  refine ⟨_, _, pre0 _ ?_, hrun, hended, _, _, rfl, ?_, ⟨_, rfl⟩, hW, hsame.mono (by decide) (by decide)⟩
  · show Steps p.tables e below (s₁.setTop (mkF m 0 #[.val (.int p1), .unset, .unset, .unset, .unset, .unset] [])) _
    refine XS.bipush X0.here hx rfl (hb hby at_0) ?_
    show Steps p.tables e below (s₁.setTop (mkF m 2 #[.val (.int p1), .unset, .unset, .unset, .unset, .unset] [(.int (12 : Int32))])) _
    refine st1 _ ?_
    show Steps p.tables e below (T1.setTop (mkF m 5 #[.val (.int p1), .unset, .unset, .unset, .unset, .unset] [(.ref b1)])) _
    refine XS.dup X1.here hx rfl (hb hby at_5) rfl rfl ?_
    show Steps p.tables e below (T1.setTop (mkF m 6 #[.val (.int p1), .unset, .unset, .unset, .unset, .unset] [(.ref b1), (.ref b1)])) _
    refine XS.iconst X1.here hx rfl (hb hby at_6) ?_
    show Steps p.tables e below (T1.setTop (mkF m 7 #[.val (.int p1), .unset, .unset, .unset, .unset, .unset] [(.int (0 : Int32)), (.ref b1), (.ref b1)])) _
    refine st2 _ ?_
    show Steps p.tables e below (T2.setTop (mkF m 10 #[.val (.int p1), .unset, .unset, .unset, .unset, .unset] [(.ref w_DAYS), (.int (0 : Int32)), (.ref b1), (.ref b1)])) _
    refine st4 _ ?_
    show Steps p.tables e below (T4.setTop (mkF m 11 #[.val (.int p1), .unset, .unset, .unset, .unset, .unset] [(.ref b1)])) _
    refine XS.dup X4.here hx rfl (hb hby at_11) rfl rfl ?_
    show Steps p.tables e below (T4.setTop (mkF m 12 #[.val (.int p1), .unset, .unset, .unset, .unset, .unset] [(.ref b1), (.ref b1)])) _
    refine XS.iconst X4.here hx rfl (hb hby at_12) ?_
    show Steps p.tables e below (T4.setTop (mkF m 13 #[.val (.int p1), .unset, .unset, .unset, .unset, .unset] [(.int (1 : Int32)), (.ref b1), (.ref b1)])) _
    refine st5 _ ?_
    show Steps p.tables e below (T5.setTop (mkF m 16 #[.val (.int p1), .unset, .unset, .unset, .unset, .unset] [(.ref w_ENERGY), (.int (1 : Int32)), (.ref b1), (.ref b1)])) _
    refine st7 _ ?_
    show Steps p.tables e below (T7.setTop (mkF m 17 #[.val (.int p1), .unset, .unset, .unset, .unset, .unset] [(.ref b1)])) _
    refine XS.dup X7.here hx rfl (hb hby at_17) rfl rfl ?_
    show Steps p.tables e below (T7.setTop (mkF m 18 #[.val (.int p1), .unset, .unset, .unset, .unset, .unset] [(.ref b1), (.ref b1)])) _
    refine XS.iconst X7.here hx rfl (hb hby at_18) ?_
    show Steps p.tables e below (T7.setTop (mkF m 19 #[.val (.int p1), .unset, .unset, .unset, .unset, .unset] [(.int (2 : Int32)), (.ref b1), (.ref b1)])) _
    refine st8 _ ?_
    show Steps p.tables e below (T8.setTop (mkF m 22 #[.val (.int p1), .unset, .unset, .unset, .unset, .unset] [(.ref w_ON_PEAK_ENERGY), (.int (2 : Int32)), (.ref b1), (.ref b1)])) _
    refine st10 _ ?_
    show Steps p.tables e below (T10.setTop (mkF m 23 #[.val (.int p1), .unset, .unset, .unset, .unset, .unset] [(.ref b1)])) _
    refine XS.dup X10.here hx rfl (hb hby at_23) rfl rfl ?_
    show Steps p.tables e below (T10.setTop (mkF m 24 #[.val (.int p1), .unset, .unset, .unset, .unset, .unset] [(.ref b1), (.ref b1)])) _
    refine XS.iconst X10.here hx rfl (hb hby at_24) ?_
    show Steps p.tables e below (T10.setTop (mkF m 25 #[.val (.int p1), .unset, .unset, .unset, .unset, .unset] [(.int (3 : Int32)), (.ref b1), (.ref b1)])) _
    refine st11 _ ?_
    show Steps p.tables e below (T11.setTop (mkF m 28 #[.val (.int p1), .unset, .unset, .unset, .unset, .unset] [(.ref w_OFF_PEAK_ENERGY), (.int (3 : Int32)), (.ref b1), (.ref b1)])) _
    refine st13 _ ?_
    show Steps p.tables e below (T13.setTop (mkF m 29 #[.val (.int p1), .unset, .unset, .unset, .unset, .unset] [(.ref b1)])) _
    refine XS.dup X13.here hx rfl (hb hby at_29) rfl rfl ?_
    show Steps p.tables e below (T13.setTop (mkF m 30 #[.val (.int p1), .unset, .unset, .unset, .unset, .unset] [(.ref b1), (.ref b1)])) _
    refine XS.iconst X13.here hx rfl (hb hby at_30) ?_
    show Steps p.tables e below (T13.setTop (mkF m 31 #[.val (.int p1), .unset, .unset, .unset, .unset, .unset] [(.int (4 : Int32)), (.ref b1), (.ref b1)])) _
    refine st14 _ ?_
    show Steps p.tables e below (T14.setTop (mkF m 34 #[.val (.int p1), .unset, .unset, .unset, .unset, .unset] [(.ref w_BILLING_DEMAND_DAYS), (.int (4 : Int32)), (.ref b1), (.ref b1)])) _
    refine st16 _ ?_
    show Steps p.tables e below (T16.setTop (mkF m 35 #[.val (.int p1), .unset, .unset, .unset, .unset, .unset] [(.ref b1)])) _
    refine XS.dup X16.here hx rfl (hb hby at_35) rfl rfl ?_
    show Steps p.tables e below (T16.setTop (mkF m 36 #[.val (.int p1), .unset, .unset, .unset, .unset, .unset] [(.ref b1), (.ref b1)])) _
    refine XS.iconst X16.here hx rfl (hb hby at_36) ?_
    show Steps p.tables e below (T16.setTop (mkF m 37 #[.val (.int p1), .unset, .unset, .unset, .unset, .unset] [(.int (5 : Int32)), (.ref b1), (.ref b1)])) _
    refine st17 _ ?_
    show Steps p.tables e below (T17.setTop (mkF m 40 #[.val (.int p1), .unset, .unset, .unset, .unset, .unset] [(.ref w_METERED_DEMAND_DAYS), (.int (5 : Int32)), (.ref b1), (.ref b1)])) _
    refine st19 _ ?_
    show Steps p.tables e below (T19.setTop (mkF m 41 #[.val (.int p1), .unset, .unset, .unset, .unset, .unset] [(.ref b1)])) _
    refine XS.dup X19.here hx rfl (hb hby at_41) rfl rfl ?_
    show Steps p.tables e below (T19.setTop (mkF m 42 #[.val (.int p1), .unset, .unset, .unset, .unset, .unset] [(.ref b1), (.ref b1)])) _
    refine XS.bipush X19.here hx rfl (hb hby at_42) ?_
    show Steps p.tables e below (T19.setTop (mkF m 44 #[.val (.int p1), .unset, .unset, .unset, .unset, .unset] [(.int (6 : Int32)), (.ref b1), (.ref b1)])) _
    refine st20 _ ?_
    show Steps p.tables e below (T20.setTop (mkF m 47 #[.val (.int p1), .unset, .unset, .unset, .unset, .unset] [(.ref w_FIXTURE_DAYS), (.int (6 : Int32)), (.ref b1), (.ref b1)])) _
    refine st22 _ ?_
    show Steps p.tables e below (T22.setTop (mkF m 48 #[.val (.int p1), .unset, .unset, .unset, .unset, .unset] [(.ref b1)])) _
    refine XS.dup X22.here hx rfl (hb hby at_48) rfl rfl ?_
    show Steps p.tables e below (T22.setTop (mkF m 49 #[.val (.int p1), .unset, .unset, .unset, .unset, .unset] [(.ref b1), (.ref b1)])) _
    refine XS.bipush X22.here hx rfl (hb hby at_49) ?_
    show Steps p.tables e below (T22.setTop (mkF m 51 #[.val (.int p1), .unset, .unset, .unset, .unset, .unset] [(.int (7 : Int32)), (.ref b1), (.ref b1)])) _
    refine st23 _ ?_
    show Steps p.tables e below (T23.setTop (mkF m 54 #[.val (.int p1), .unset, .unset, .unset, .unset, .unset] [(.ref w_HIGHEST_HOUR_ENERGY), (.int (7 : Int32)), (.ref b1), (.ref b1)])) _
    refine st25 _ ?_
    show Steps p.tables e below (T25.setTop (mkF m 55 #[.val (.int p1), .unset, .unset, .unset, .unset, .unset] [(.ref b1)])) _
    refine XS.dup X25.here hx rfl (hb hby at_55) rfl rfl ?_
    show Steps p.tables e below (T25.setTop (mkF m 56 #[.val (.int p1), .unset, .unset, .unset, .unset, .unset] [(.ref b1), (.ref b1)])) _
    refine XS.bipush X25.here hx rfl (hb hby at_56) ?_
    show Steps p.tables e below (T25.setTop (mkF m 58 #[.val (.int p1), .unset, .unset, .unset, .unset, .unset] [(.int (8 : Int32)), (.ref b1), (.ref b1)])) _
    refine st26 _ ?_
    show Steps p.tables e below (T26.setTop (mkF m 61 #[.val (.int p1), .unset, .unset, .unset, .unset, .unset] [(.ref w_GAS_INDEXED_ENERGY), (.int (8 : Int32)), (.ref b1), (.ref b1)])) _
    refine st28 _ ?_
    show Steps p.tables e below (T28.setTop (mkF m 62 #[.val (.int p1), .unset, .unset, .unset, .unset, .unset] [(.ref b1)])) _
    refine XS.dup X28.here hx rfl (hb hby at_62) rfl rfl ?_
    show Steps p.tables e below (T28.setTop (mkF m 63 #[.val (.int p1), .unset, .unset, .unset, .unset, .unset] [(.ref b1), (.ref b1)])) _
    refine XS.bipush X28.here hx rfl (hb hby at_63) ?_
    show Steps p.tables e below (T28.setTop (mkF m 65 #[.val (.int p1), .unset, .unset, .unset, .unset, .unset] [(.int (9 : Int32)), (.ref b1), (.ref b1)])) _
    refine st29 _ ?_
    show Steps p.tables e below (T29.setTop (mkF m 68 #[.val (.int p1), .unset, .unset, .unset, .unset, .unset] [(.ref w_POOL_PRICED_ENERGY), (.int (9 : Int32)), (.ref b1), (.ref b1)])) _
    refine st31 _ ?_
    show Steps p.tables e below (T31.setTop (mkF m 69 #[.val (.int p1), .unset, .unset, .unset, .unset, .unset] [(.ref b1)])) _
    refine XS.dup X31.here hx rfl (hb hby at_69) rfl rfl ?_
    show Steps p.tables e below (T31.setTop (mkF m 70 #[.val (.int p1), .unset, .unset, .unset, .unset, .unset] [(.ref b1), (.ref b1)])) _
    refine XS.bipush X31.here hx rfl (hb hby at_70) ?_
    show Steps p.tables e below (T31.setTop (mkF m 72 #[.val (.int p1), .unset, .unset, .unset, .unset, .unset] [(.int (10 : Int32)), (.ref b1), (.ref b1)])) _
    refine st32 _ ?_
    show Steps p.tables e below (T32.setTop (mkF m 75 #[.val (.int p1), .unset, .unset, .unset, .unset, .unset] [(.ref w_ISO_COSTS), (.int (10 : Int32)), (.ref b1), (.ref b1)])) _
    refine st34 _ ?_
    show Steps p.tables e below (T34.setTop (mkF m 76 #[.val (.int p1), .unset, .unset, .unset, .unset, .unset] [(.ref b1)])) _
    refine XS.dup X34.here hx rfl (hb hby at_76) rfl rfl ?_
    show Steps p.tables e below (T34.setTop (mkF m 77 #[.val (.int p1), .unset, .unset, .unset, .unset, .unset] [(.ref b1), (.ref b1)])) _
    refine XS.bipush X34.here hx rfl (hb hby at_77) ?_
    show Steps p.tables e below (T34.setTop (mkF m 79 #[.val (.int p1), .unset, .unset, .unset, .unset, .unset] [(.int (11 : Int32)), (.ref b1), (.ref b1)])) _
    refine st35 _ ?_
    show Steps p.tables e below (T35.setTop (mkF m 82 #[.val (.int p1), .unset, .unset, .unset, .unset, .unset] [(.ref w_DISTRIBUTION_ACCESS_CHARGES), (.int (11 : Int32)), (.ref b1), (.ref b1)])) _
    refine st37 _ ?_
    show Steps p.tables e below (T37.setTop (mkF m 83 #[.val (.int p1), .unset, .unset, .unset, .unset, .unset] [(.ref b1)])) _
    refine XS.astoreN X37.here hx rfl (hb hby at_83) rfl rfl (l' := #[.val (.int p1), .val (.ref b1), .unset, .unset, .unset, .unset]) rfl ?_
    show Steps p.tables e below (T37.setTop (mkF m 84 #[.val (.int p1), .val (.ref b1), .unset, .unset, .unset, .unset] [])) _
    refine XS.iloadN X37.here hx rfl (hb hby at_84) rfl ?_
    show Steps p.tables e below (T37.setTop (mkF m 85 #[.val (.int p1), .val (.ref b1), .unset, .unset, .unset, .unset] [(.int p1)])) _
    refine X37.ldcInt hx hown (mvT hZ (wd28 hw)) (g := (mkF m 85 #[.val (.int p1), .val (.ref b1), .unset, .unset, .unset, .unset] [(.int p1)])) rfl (hb hby at_85) _ ?_
    show Steps p.tables e below (T37.setTop (mkF m 87 #[.val (.int p1), .val (.ref b1), .unset, .unset, .unset, .unset] [(.int (2147483647 : Int32)), (.int p1)])) _
    refine XS.iand X37.here hx rfl (hb hby at_87) rfl ?_
    show Steps p.tables e below (T37.setTop (mkF m 88 #[.val (.int p1), .val (.ref b1), .unset, .unset, .unset, .unset] [(.int (p1 &&& (2147483647 : Int32)))])) _
    refine XS.bipush X37.here hx rfl (hb hby at_88) ?_
    show Steps p.tables e below (T37.setTop (mkF m 90 #[.val (.int p1), .val (.ref b1), .unset, .unset, .unset, .unset] [(.int (12 : Int32)), (.int (p1 &&& (2147483647 : Int32)))])) _
    refine iremM X37 hx rfl (hb hby at_90) rfl (by decide) ?_
    show Steps p.tables e below (T37.setTop (mkF m 91 #[.val (.int p1), .val (.ref b1), .unset, .unset, .unset, .unset] [(.int ((p1 &&& (2147483647 : Int32)) % (12 : Int32)))])) _
    rw [pr25]
    show Steps p.tables e below (T37.setTop (mkF m 91 #[.val (.int p1), .val (.ref b1), .unset, .unset, .unset, .unset] [(.int (7 : Int32))])) _
    refine XS.istoreN X37.here hx rfl (hb hby at_91) rfl (l' := #[.val (.int p1), .val (.ref b1), .val (.int (7 : Int32)), .unset, .unset, .unset]) rfl ?_
    show Steps p.tables e below (T37.setTop (mkF m 92 #[.val (.int p1), .val (.ref b1), .val (.int (7 : Int32)), .unset, .unset, .unset] [])) _
    refine XS.aloadN X37.here hx rfl (hb hby at_92) rfl rfl ?_
    show Steps p.tables e below (T37.setTop (mkF m 93 #[.val (.int p1), .val (.ref b1), .val (.int (7 : Int32)), .unset, .unset, .unset] [(.ref b1)])) _
    refine XS.iloadN X37.here hx rfl (hb hby at_93) rfl ?_
    show Steps p.tables e below (T37.setTop (mkF m 94 #[.val (.int p1), .val (.ref b1), .val (.int (7 : Int32)), .unset, .unset, .unset] [(.int (7 : Int32)), (.ref b1)])) _
    refine X37.aaload hx (j := (7 : Int32)) (v := (.ref w_HIGHEST_HOUR_ENERGY)) (by rw [e37]; exact Ar38.1) (State.isArrayOf_alike hZ.alike Ar38.2.1) rfl Ar38.2.2 hin38 hat38 (g := (mkF m 94 #[.val (.int p1), .val (.ref b1), .val (.int (7 : Int32)), .unset, .unset, .unset] [(.int (7 : Int32)), (.ref b1)])) rfl rfl (hb hby at_94) _ ?_
    show Steps p.tables e below (T37.setTop (mkF m 95 #[.val (.int p1), .val (.ref b1), .val (.int (7 : Int32)), .unset, .unset, .unset] [(.ref w_HIGHEST_HOUR_ENERGY)])) _
    refine XS.astoreN X37.here hx rfl (hb hby at_95) rfl rfl (l' := #[.val (.int p1), .val (.ref b1), .val (.int (7 : Int32)), .val (.ref w_HIGHEST_HOUR_ENERGY), .unset, .unset]) rfl ?_
    show Steps p.tables e below (T37.setTop (mkF m 96 #[.val (.int p1), .val (.ref b1), .val (.int (7 : Int32)), .val (.ref w_HIGHEST_HOUR_ENERGY), .unset, .unset] [])) _
    refine XS.iloadN X37.here hx rfl (hb hby at_96) rfl ?_
    show Steps p.tables e below (T37.setTop (mkF m 97 #[.val (.int p1), .val (.ref b1), .val (.int (7 : Int32)), .val (.ref w_HIGHEST_HOUR_ENERGY), .unset, .unset] [(.int (7 : Int32))])) _
    refine XS.bipush X37.here hx rfl (hb hby at_97) ?_
    show Steps p.tables e below (T37.setTop (mkF m 99 #[.val (.int p1), .val (.ref b1), .val (.int (7 : Int32)), .val (.ref w_HIGHEST_HOUR_ENERGY), .unset, .unset] [(.int (7 : Int32)), (.int (7 : Int32))])) _
    refine XS.icmpYes X37.here hx rfl (pc0 := 99) (pc' := 114) rfl (hb hby at_99) rfl (teq (rfl : (7 : Int32) = (7 : Int32))).1 (by decide) (by decide) ?_
    show Steps p.tables e below (T37.setTop (mkF m 114 #[.val (.int p1), .val (.ref b1), .val (.int (7 : Int32)), .val (.ref w_HIGHEST_HOUR_ENERGY), .unset, .unset] [])) _
    refine XS.iconst X37.here hx rfl (hb hby at_114) ?_
    show Steps p.tables e below (T37.setTop (mkF m 115 #[.val (.int p1), .val (.ref b1), .val (.int (7 : Int32)), .val (.ref w_HIGHEST_HOUR_ENERGY), .unset, .unset] [(.int (1 : Int32))])) _
    refine XS.goto X37.here hx rfl (pc0 := 115) (pc' := 119) rfl (hb hby at_115) (by decide) (by decide) ?_
    show Steps p.tables e below (T37.setTop (mkF m 119 #[.val (.int p1), .val (.ref b1), .val (.int (7 : Int32)), .val (.ref w_HIGHEST_HOUR_ENERGY), .unset, .unset] [(.int (1 : Int32))])) _
    refine XS.istore X37.here hx rfl (hb hby at_119) rfl (l' := #[.val (.int p1), .val (.ref b1), .val (.int (7 : Int32)), .val (.ref w_HIGHEST_HOUR_ENERGY), .val (.int (1 : Int32)), .unset]) rfl ?_
    show Steps p.tables e below (T37.setTop (mkF m 121 #[.val (.int p1), .val (.ref b1), .val (.int (7 : Int32)), .val (.ref w_HIGHEST_HOUR_ENERGY), .val (.int (1 : Int32)), .unset] [])) _
    refine XS.aloadN X37.here hx rfl (hb hby at_121) rfl rfl ?_
    show Steps p.tables e below (T37.setTop (mkF m 122 #[.val (.int p1), .val (.ref b1), .val (.int (7 : Int32)), .val (.ref w_HIGHEST_HOUR_ENERGY), .val (.int (1 : Int32)), .unset] [(.ref w_HIGHEST_HOUR_ENERGY)])) _
    refine st39.trans ?_
    show Steps p.tables e below (T39.setTop (mkF m 125 #[.val (.int p1), .val (.ref b1), .val (.int (7 : Int32)), .val (.ref w_HIGHEST_HOUR_ENERGY), .val (.int (1 : Int32)), .unset] [(.int (1 : Int32))])) _
    refine XS.istore X39.here hx rfl (hb hby at_125) rfl (l' := #[.val (.int p1), .val (.ref b1), .val (.int (7 : Int32)), .val (.ref w_HIGHEST_HOUR_ENERGY), .val (.int (1 : Int32)), .val (.int (1 : Int32))]) rfl ?_
    show Steps p.tables e below (T39.setTop (mkF m 127 #[.val (.int p1), .val (.ref b1), .val (.int (7 : Int32)), .val (.ref w_HIGHEST_HOUR_ENERGY), .val (.int (1 : Int32)), .val (.int (1 : Int32))] [])) _
    refine XS.iload X39.here hx rfl (hb hby at_127) rfl ?_
    show Steps p.tables e below (T39.setTop (mkF m 129 #[.val (.int p1), .val (.ref b1), .val (.int (7 : Int32)), .val (.ref w_HIGHEST_HOUR_ENERGY), .val (.int (1 : Int32)), .val (.int (1 : Int32))] [(.int (1 : Int32))])) _
    refine XS.iload X39.here hx rfl (hb hby at_129) rfl ?_
    show Steps p.tables e below (T39.setTop (mkF m 131 #[.val (.int p1), .val (.ref b1), .val (.int (7 : Int32)), .val (.ref w_HIGHEST_HOUR_ENERGY), .val (.int (1 : Int32)), .val (.int (1 : Int32))] [(.int (1 : Int32)), (.int (1 : Int32))])) _
    refine XS.icmpYes X39.here hx rfl (pc0 := 131) (pc' := 136) rfl (hb hby at_131) rfl (teq (rfl : (1 : Int32) = (1 : Int32))).1 (by decide) (by decide) ?_
    show Steps p.tables e below (T39.setTop (mkF m 136 #[.val (.int p1), .val (.ref b1), .val (.int (7 : Int32)), .val (.ref w_HIGHEST_HOUR_ENERGY), .val (.int (1 : Int32)), .val (.int (1 : Int32))] [])) _
    refine XS.iload X39.here hx rfl (hb hby at_136) rfl ?_
    show Steps p.tables e below (T39.setTop (mkF m 138 #[.val (.int p1), .val (.ref b1), .val (.int (7 : Int32)), .val (.ref w_HIGHEST_HOUR_ENERGY), .val (.int (1 : Int32)), .val (.int (1 : Int32))] [(.int (1 : Int32))])) _
    refine XS.ifNo X39.here hx rfl (hb hby at_138) rfl ((if0 _ _).trans (feq (by decide : ¬ ((1 : Int32) = (0 : Int32)))).1) ?_
    show Steps p.tables e below (T39.setTop (mkF m 141 #[.val (.int p1), .val (.ref b1), .val (.int (7 : Int32)), .val (.ref w_HIGHEST_HOUR_ENERGY), .val (.int (1 : Int32)), .val (.int (1 : Int32))] [])) _
    refine XS.aloadN X39.here hx rfl (hb hby at_141) rfl rfl ?_
    show Steps p.tables e below (T39.setTop (mkF m 142 #[.val (.int p1), .val (.ref b1), .val (.int (7 : Int32)), .val (.ref w_HIGHEST_HOUR_ENERGY), .val (.int (1 : Int32)), .val (.int (1 : Int32))] [(.ref w_HIGHEST_HOUR_ENERGY)])) _
    refine st40.trans ?_
    show Steps p.tables e below (T40.setTop (mkF m 145 #[.val (.int p1), .val (.ref b1), .val (.int (7 : Int32)), .val (.ref w_HIGHEST_HOUR_ENERGY), .val (.int (1 : Int32)), .val (.int (1 : Int32))] [(.int (0 : Int32))])) _
    refine XS.ifNo X40.here hx rfl (hb hby at_145) rfl ((if0 _ _).trans (teq (rfl : (0 : Int32) = (0 : Int32))).2) ?_
    show Steps p.tables e below (T40.setTop (mkF m 148 #[.val (.int p1), .val (.ref b1), .val (.int (7 : Int32)), .val (.ref w_HIGHEST_HOUR_ENERGY), .val (.int (1 : Int32)), .val (.int (1 : Int32))] [])) _
    refine XS.aloadN X40.here hx rfl (hb hby at_148) rfl rfl ?_
    show Steps p.tables e below (T40.setTop (mkF m 149 #[.val (.int p1), .val (.ref b1), .val (.int (7 : Int32)), .val (.ref w_HIGHEST_HOUR_ENERGY), .val (.int (1 : Int32)), .val (.int (1 : Int32))] [(.ref w_HIGHEST_HOUR_ENERGY)])) _
    refine st41.trans ?_
    show Steps p.tables e below (T41.setTop (mkF m 152 #[.val (.int p1), .val (.ref b1), .val (.int (7 : Int32)), .val (.ref w_HIGHEST_HOUR_ENERGY), .val (.int (1 : Int32)), .val (.int (1 : Int32))] [(.int (0 : Int32))])) _
    refine XS.ifNo X41.here hx rfl (hb hby at_152) rfl ((if0 _ _).trans (teq (rfl : (0 : Int32) = (0 : Int32))).2) ?_
    show Steps p.tables e below (T41.setTop (mkF m 155 #[.val (.int p1), .val (.ref b1), .val (.int (7 : Int32)), .val (.ref w_HIGHEST_HOUR_ENERGY), .val (.int (1 : Int32)), .val (.int (1 : Int32))] [])) _
    refine XS.aloadN X41.here hx rfl (hb hby at_155) rfl rfl ?_
    show Steps p.tables e below (T41.setTop (mkF m 156 #[.val (.int p1), .val (.ref b1), .val (.int (7 : Int32)), .val (.ref w_HIGHEST_HOUR_ENERGY), .val (.int (1 : Int32)), .val (.int (1 : Int32))] [(.ref w_HIGHEST_HOUR_ENERGY)])) _
    refine st42.trans ?_
    show Steps p.tables e below (T42.setTop (mkF m 159 #[.val (.int p1), .val (.ref b1), .val (.int (7 : Int32)), .val (.ref w_HIGHEST_HOUR_ENERGY), .val (.int (1 : Int32)), .val (.int (1 : Int32))] [(.int (0 : Int32))])) _
    refine XS.ifYes X42.here hx rfl (pc0 := 159) (pc' := 164) rfl (hb hby at_159) rfl ((if0 _ _).trans (teq (rfl : (0 : Int32) = (0 : Int32))).1) (by decide) (by decide) ?_
    show Steps p.tables e below (T42.setTop (mkF m 164 #[.val (.int p1), .val (.ref b1), .val (.int (7 : Int32)), .val (.ref w_HIGHEST_HOUR_ENERGY), .val (.int (1 : Int32)), .val (.int (1 : Int32))] [])) _
    refine XS.iconst X42.here hx rfl (hb hby at_164) ?_
    show Steps p.tables e below (T42.setTop (mkF m 165 #[.val (.int p1), .val (.ref b1), .val (.int (7 : Int32)), .val (.ref w_HIGHEST_HOUR_ENERGY), .val (.int (1 : Int32)), .val (.int (1 : Int32))] [(.int (1 : Int32))])) _
    exact retN X42 hx (t := .boolean) Bd.returns (by simp) (hb hby at_165) hr
  · exact ⟨rfl, N42⟩
def Q_rm1_2 (Z : State) (w1 : Addr) (w2 : Addr) (h0 : Heap) (n0 : Nat) (v : Option Value) (h : Heap) (L : List Loc) : Prop := v = some (.int (1 : Int32)) ∧ Fr n0 L ∧ h = h0
set_option maxRecDepth 65536 in
set_option maxHeartbeats 40000000 in
theorem rm1_2 (l : Launch) (Z : State) (a0 : Array Value) (hw : ∀ d ∈ tables_1, d.before a0 Z = true) (ws : List Jvm.Cond) (w1 : Addr) (w2 : Addr) (h0 : Heap) (n0 : Nat) (OL0 : Old Z n0 h0) (pr1 : Sta Z Z.heap "com/example/tarcal/tarcal/schedules/Basis" "HIGHEST_HOUR_ENERGY" "Lcom/example/tarcal/tarcal/schedules/Basis;" (.ref w2)) (pr2 : w1 ≠ w2) (pr3 : Sta Z Z.heap "com/example/tarcal/tarcal/schedules/Basis" "GAS_INDEXED_ENERGY" "Lcom/example/tarcal/tarcal/schedules/Basis;" (.ref w1)) :
    MetFree l (⟨"com/example/tarcal/tarcal/schedules/Basis", "perPeriod", "()Z"⟩ : MethodName) (head1 (Jvm.Cond.code (⟨"com/example/tarcal/tarcal/schedules/Basis", "perPeriod", "()Z"⟩ : MethodName) prog_21_method_9_code 1 (some .boolean) :: ws) ({ frames := 0, cells := 0, slots := 0, locals := 0 } : Room)) (fun a U => a = #[(.ref w1)] ∧ Z.Warmed39 U.vm ∧ U.heap = h0) (fun _ _ _ _ _ => True) (fun _ U o U' => ∃ v L, o = .returned v ∧ Q_rm1_2 Z w1 w2 h0 n0 v U'.heap L ∧ FrameEnd U o U' L ({ frames := 0, cells := 0, slots := 0, locals := 0 } : Room).cells ({ frames := 0, cells := 0, slots := 0, locals := 0 } : Room).slots) := by
  refine MetFree.of_bodySF (plainFor_of_name pn_0) hisR ?_
  intro p e s m args below meth c s₁ Bd hml0 hP hK
  obtain ⟨rfl, hZ, hh⟩ := hP
  have hx := Bd.exec
  have hby := Bd.bytes
  have hml : c.maxLocals = 1 := hml0
  have hown : s.vm.findClass "com/example/tarcal/tarcal/schedules/Basis" = some m.cls := findClass_of_methodNamed Bd.named
  have hnm := (name_of_methodNamed Bd.named Bd.method).1
  have X0 : Stand p l e ({ frames := 0, cells := 0, slots := 0, locals := 0 } : Room) s m #[(.ref w1)] below meth c s₁ [] 0 0 := Stand.of_body Bd
  have e0 : s₁.heap = h0 := by rw [← hh, Bd.state]; rfl
  have N0 := Fr.nil n0
  have pre0 : ∀ t, Steps p.tables e below (s₁.setTop (mkF m 0 #[.val (.ref w1)] [])) t → Steps p.tables e below (s₁.setTop (entryFrame m #[(.ref w1)] 1)) t := fun t k => castTop (ef_1_0 m w1) k
  obtain ⟨T3, X3, e3, st3⟩ := getS2 X0 hx hZ hown (host := "") (Or.inl (wd34 hw)) Via.refl e0 (pr1.ext OL0.2) (g := (mkF m 1 #[.val (.ref w1)] [(.ref w1)])) rfl (hb hby d1_1)
  obtain ⟨T4, X4, e4, st4⟩ := getS2 X3 hx hZ hown (host := "") (Or.inl (wd35 hw)) Via.refl e3 (pr3.ext OL0.2) (g := (mkF m 8 #[.val (.ref w1)] [(.ref w1)])) rfl (hb hby d1_8)
  obtain ⟨fs, hr, hrun, hended, hW, hsame⟩ := X4.leave (v := some (.int (1 : Int32))) (fun h => by rw [Bd.returns] at h; cases h)
  refine ⟨_, _, pre0 _ ?_, hrun, hended, _, _, rfl, ?_, ⟨_, rfl⟩, hW, hsame.mono (by decide) (by decide)⟩
  · show Steps p.tables e below (s₁.setTop (mkF m 0 #[.val (.ref w1)] [])) _
    refine XS.aloadN X0.here hx rfl (hb hby d1_0) rfl rfl ?_
    show Steps p.tables e below (s₁.setTop (mkF m 1 #[.val (.ref w1)] [(.ref w1)])) _
    refine st3 _ ?_
    show Steps p.tables e below (T3.setTop (mkF m 4 #[.val (.ref w1)] [(.ref w2), (.ref w1)])) _
    refine Jvm.RoadKit.acmp (g := (mkF m 4 #[.val (.ref w1)] [(.ref w2), (.ref w1)])) X3 hx rfl rfl rfl (pc0 := 4) (pc' := 7) (same := false) rfl (hb hby d1_4) rfl (decide_eq_false fun q => pr2 (Value.ref.inj q)) (by decide) (by decide) ?_
    show Steps p.tables e below (T3.setTop (mkF m 7 #[.val (.ref w1)] [])) _
    refine XS.aloadN X3.here hx rfl (hb hby d1_7) rfl rfl ?_
    show Steps p.tables e below (T3.setTop (mkF m 8 #[.val (.ref w1)] [(.ref w1)])) _
    refine st4 _ ?_
    show Steps p.tables e below (T4.setTop (mkF m 11 #[.val (.ref w1)] [(.ref w1), (.ref w1)])) _
    refine Jvm.RoadKit.acmp (g := (mkF m 11 #[.val (.ref w1)] [(.ref w1), (.ref w1)])) X4 hx rfl rfl rfl (pc0 := 11) (pc' := 21) (same := true) rfl (hb hby d1_11) rfl (decide_eq_true rfl) (by decide) (by decide) ?_
    show Steps p.tables e below (T4.setTop (mkF m 21 #[.val (.ref w1)] [])) _
    refine XS.iconst X4.here hx rfl (hb hby d1_21) ?_
    show Steps p.tables e below (T4.setTop (mkF m 22 #[.val (.ref w1)] [(.int (1 : Int32))])) _
    refine XS.goto X4.here hx rfl (pc0 := 22) (pc' := 26) rfl (hb hby d1_22) (by decide) (by decide) ?_
    show Steps p.tables e below (T4.setTop (mkF m 26 #[.val (.ref w1)] [(.int (1 : Int32))])) _
    exact retN X4 hx (t := .boolean) Bd.returns (by simp) (hb hby d1_26) hr
  · show Q_rm1_2 Z w1 w2 h0 n0 _ T4.heap _
    rw [e4]
    exact ⟨rfl, N0, rfl⟩
set_option maxRecDepth 65536 in
set_option maxHeartbeats 40000000 in
theorem rm0_8 (l : Launch) (Z : State) (a0 : Array Value) (hw : ∀ d ∈ tables_1, d.before a0 Z = true) (ws : List Jvm.Cond) (p1 : Int32) (w_DAYS : Addr) (w_ENERGY : Addr) (w_ON_PEAK_ENERGY : Addr) (w_OFF_PEAK_ENERGY : Addr) (w_BILLING_DEMAND_DAYS : Addr) (w_METERED_DEMAND_DAYS : Addr) (w_FIXTURE_DAYS : Addr) (w_HIGHEST_HOUR_ENERGY : Addr) (w_GAS_INDEXED_ENERGY : Addr) (w_POOL_PRICED_ENERGY : Addr) (w_ISO_COSTS : Addr) (w_DISTRIBUTION_ACCESS_CHARGES : Addr) (h0 : Heap) (n0 : Nat) (OL0 : Old Z n0 h0) (pr1 : Sta Z Z.heap "com/example/tarcal/tarcal/schedules/Basis" "DAYS" "Lcom/example/tarcal/tarcal/schedules/Basis;" (.ref w_DAYS)) (pr2 : Exa Z Z.heap w_DAYS "com/example/tarcal/tarcal/schedules/Basis") (pr3 : Sta Z Z.heap "com/example/tarcal/tarcal/schedules/Basis" "ENERGY" "Lcom/example/tarcal/tarcal/schedules/Basis;" (.ref w_ENERGY)) (pr4 : Exa Z Z.heap w_ENERGY "com/example/tarcal/tarcal/schedules/Basis") (pr5 : Sta Z Z.heap "com/example/tarcal/tarcal/schedules/Basis" "ON_PEAK_ENERGY" "Lcom/example/tarcal/tarcal/schedules/Basis;" (.ref w_ON_PEAK_ENERGY)) (pr6 : Exa Z Z.heap w_ON_PEAK_ENERGY "com/example/tarcal/tarcal/schedules/Basis") (pr7 : Sta Z Z.heap "com/example/tarcal/tarcal/schedules/Basis" "OFF_PEAK_ENERGY" "Lcom/example/tarcal/tarcal/schedules/Basis;" (.ref w_OFF_PEAK_ENERGY)) (pr8 : Exa Z Z.heap w_OFF_PEAK_ENERGY "com/example/tarcal/tarcal/schedules/Basis") (pr9 : Sta Z Z.heap "com/example/tarcal/tarcal/schedules/Basis" "BILLING_DEMAND_DAYS" "Lcom/example/tarcal/tarcal/schedules/Basis;" (.ref w_BILLING_DEMAND_DAYS)) (pr10 : Exa Z Z.heap w_BILLING_DEMAND_DAYS "com/example/tarcal/tarcal/schedules/Basis") (pr11 : Sta Z Z.heap "com/example/tarcal/tarcal/schedules/Basis" "METERED_DEMAND_DAYS" "Lcom/example/tarcal/tarcal/schedules/Basis;" (.ref w_METERED_DEMAND_DAYS)) (pr12 : Exa Z Z.heap w_METERED_DEMAND_DAYS "com/example/tarcal/tarcal/schedules/Basis") (pr13 : Sta Z Z.heap "com/example/tarcal/tarcal/schedules/Basis" "FIXTURE_DAYS" "Lcom/example/tarcal/tarcal/schedules/Basis;" (.ref w_FIXTURE_DAYS)) (pr14 : Exa Z Z.heap w_FIXTURE_DAYS "com/example/tarcal/tarcal/schedules/Basis") (pr15 : Sta Z Z.heap "com/example/tarcal/tarcal/schedules/Basis" "HIGHEST_HOUR_ENERGY" "Lcom/example/tarcal/tarcal/schedules/Basis;" (.ref w_HIGHEST_HOUR_ENERGY)) (pr16 : Exa Z Z.heap w_HIGHEST_HOUR_ENERGY "com/example/tarcal/tarcal/schedules/Basis") (pr17 : Sta Z Z.heap "com/example/tarcal/tarcal/schedules/Basis" "GAS_INDEXED_ENERGY" "Lcom/example/tarcal/tarcal/schedules/Basis;" (.ref w_GAS_INDEXED_ENERGY)) (pr18 : Exa Z Z.heap w_GAS_INDEXED_ENERGY "com/example/tarcal/tarcal/schedules/Basis") (pr19 : Sta Z Z.heap "com/example/tarcal/tarcal/schedules/Basis" "POOL_PRICED_ENERGY" "Lcom/example/tarcal/tarcal/schedules/Basis;" (.ref w_POOL_PRICED_ENERGY)) (pr20 : Exa Z Z.heap w_POOL_PRICED_ENERGY "com/example/tarcal/tarcal/schedules/Basis") (pr21 : Sta Z Z.heap "com/example/tarcal/tarcal/schedules/Basis" "ISO_COSTS" "Lcom/example/tarcal/tarcal/schedules/Basis;" (.ref w_ISO_COSTS)) (pr22 : Exa Z Z.heap w_ISO_COSTS "com/example/tarcal/tarcal/schedules/Basis") (pr23 : Sta Z Z.heap "com/example/tarcal/tarcal/schedules/Basis" "DISTRIBUTION_ACCESS_CHARGES" "Lcom/example/tarcal/tarcal/schedules/Basis;" (.ref w_DISTRIBUTION_ACCESS_CHARGES)) (pr24 : Exa Z Z.heap w_DISTRIBUTION_ACCESS_CHARGES "com/example/tarcal/tarcal/schedules/Basis") (pr25 : ((p1 &&& (2147483647 : Int32)) % (12 : Int32)) = (8 : Int32)) (pr26 : w_GAS_INDEXED_ENERGY ≠ w_HIGHEST_HOUR_ENERGY) (pr27 : Fld Z Z.heap w_GAS_INDEXED_ENERGY "com/example/tarcal/tarcal/schedules/Basis" "onDemand" "Z" (.int (0 : Int32))) (pr28 : Fld Z Z.heap w_GAS_INDEXED_ENERGY "com/example/tarcal/tarcal/schedules/Basis" "byTimeOfUse" "Z" (.int (0 : Int32))) (pr29 : w_GAS_INDEXED_ENERGY ≠ w_ISO_COSTS) :
    MetFree l x (head1 (Jvm.Cond.code x code maxLocals ret :: ws) room_1) (fun a U => a = #[(.int p1)] ∧ Z.Warmed39 U.vm ∧ U.heap = h0) (fun _ _ _ _ _ => True) (fun _ U o U' => ∃ v L, o = .returned v ∧ Q0 n0 v L ∧ FrameEnd U o U' L 16 128) := by
  refine MetFree.of_bodySF (plainFor_of_name pn_1) hisR ?_
  intro p e s m args below meth c s₁ Bd hml0 hP hK
  obtain ⟨rfl, hZ, hh⟩ := hP
  have hx := Bd.exec
  have hby := Bd.bytes
  have hml : c.maxLocals = 6 := hml0
  have hown : s.vm.findClass "com/example/tarcal/tarcal/schedules/BasisPerPeriodPinLaw" = some m.cls := findClass_of_methodNamed Bd.named
  have hnm := (name_of_methodNamed Bd.named Bd.method).1
  have X0 : Stand p l e room_1 s m #[(.int p1)] below meth c s₁ [] 0 0 := Stand.of_body Bd
  have e0 : s₁.heap = h0 := by rw [← hh, Bd.state]; rfl
  have N0 := Fr.nil n0
  have pre0 : ∀ t, Steps p.tables e below (s₁.setTop (mkF m 0 #[.val (.int p1), .unset, .unset, .unset, .unset, .unset] [])) t → Steps p.tables e below (s₁.setTop (entryFrame m #[(.int p1)] maxLocals)) t := fun t k => castTop (ef_0_1 m p1) k
  obtain ⟨T1, h1, k1, X1, e1, E1, A1, O1, st1⟩ := newR X0 hx hZ hown (wd0 hw) (wd1 hw) e0 (g := (mkF m 2 #[.val (.int p1), .unset, .unset, .unset, .unset, .unset] [(.int (12 : Int32))])) rfl (hb hby at_2) rfl (by decide) (cap := 12) (by decide) (by decide) (by decide) (by decide)
  obtain ⟨b1, g1⟩ : ∃ z, z = h0.size := ⟨_, rfl⟩
  rw [← g1] at A1 st1
  have V1 : Arv Z h1 b1 k1 (.object "com/example/tarcal/tarcal/schedules/Basis") (12 : Int32) [.null, .null, .null, .null, .null, .null, .null, .null, .null, .null, .null, .null] .null := (Arv.new A1 (by decide)).pad (pad_rep [] .null 12)
  have g_b1 : n0 ≤ b1 := (Nat.le_trans (Nat.le_trans (Nat.le_of_eq OL0.1.symm) OL0.2.1) (Nat.le_of_eq g1.symm))
  have sz_b1 : h0.size ≤ b1 := (Nat.le_trans (Keep.refl h0 []).1 (Nat.le_of_eq g1.symm))
  have KK1 : Keep h0 h1 [] := (Keep.refl h0 []).ext E1
  have OL1 := OL0.ext E1
  obtain ⟨T2, X2, e2, st2⟩ := getS2 X1 hx hZ hown (host := "") (Or.inl (wd2 hw)) Via.refl e1 (pr1.ext OL1.2) (g := (mkF m 7 #[.val (.int p1), .unset, .unset, .unset, .unset, .unset] [(.int (0 : Int32)), (.ref b1), (.ref b1)])) rfl (hb hby at_7)
  obtain ⟨cl3, Ar3, q3, S3, M3, Hs3, G3⟩ := V1
  have hin3 : ¬ ((0 : Int32) < 0 ∨ cl3.slots.size ≤ ((0 : Int32)).toNatClampNeg) := inb_of S3 ⟨by decide, by decide⟩
  obtain ⟨T4, h4, X4, e4, W4, st4⟩ := stR X2 hx hZ e2 Ar3 (j := (0 : Int32)) hin3 rfl (Sto.ofV Ar3 q3 O1 (Ins.self (pr2.ext OL1.2))) (g := (mkF m 10 #[.val (.int p1), .unset, .unset, .unset, .unset, .unset] [(.ref w_DAYS), (.int (0 : Int32)), (.ref b1), (.ref b1)])) rfl rfl (hb hby at_10)
  have V4 : Arv Z h4 b1 k1 (.object "com/example/tarcal/tarcal/schedules/Basis") (12 : Int32) [(.ref w_DAYS), .null, .null, .null, .null, .null, .null, .null, .null, .null, .null, .null] .null := Arv.set Ar3 q3 S3 M3 Hs3 G3 rfl W4 0 rfl (Nat.le_of_ble_eq_true rfl)
  have KK4 : Keep h0 h4 [] := KK1.wr W4 (Or.inr sz_b1)
  have OL4 := OL1.wr W4 g_b1
  have N4 := Fr.snoc X4 N0 g_b1
  obtain ⟨T5, X5, e5, st5⟩ := getS2 X4 hx hZ hown (host := "") (Or.inl (wd6 hw)) Via.refl e4 (pr3.ext OL4.2) (g := (mkF m 13 #[.val (.int p1), .unset, .unset, .unset, .unset, .unset] [(.int (1 : Int32)), (.ref b1), (.ref b1)])) rfl (hb hby at_13)
  obtain ⟨cl6, Ar6, q6, S6, M6, Hs6, G6⟩ := V4
  have hin6 : ¬ ((1 : Int32) < 0 ∨ cl6.slots.size ≤ ((1 : Int32)).toNatClampNeg) := inb_of S6 ⟨by decide, by decide⟩
  obtain ⟨T7, h7, X7, e7, W7, st7⟩ := stR X5 hx hZ e5 Ar6 (j := (1 : Int32)) hin6 rfl (Sto.ofV Ar6 q6 O1 (Ins.self (pr4.ext OL4.2))) (g := (mkF m 16 #[.val (.int p1), .unset, .unset, .unset, .unset, .unset] [(.ref w_ENERGY), (.int (1 : Int32)), (.ref b1), (.ref b1)])) rfl rfl (hb hby at_16)
  have V7 : Arv Z h7 b1 k1 (.object "com/example/tarcal/tarcal/schedules/Basis") (12 : Int32) [(.ref w_DAYS), (.ref w_ENERGY), .null, .null, .null, .null, .null, .null, .null, .null, .null, .null] .null := Arv.set Ar6 q6 S6 M6 Hs6 G6 rfl W7 1 rfl (Nat.le_of_ble_eq_true rfl)
  have KK7 : Keep h0 h7 [] := KK4.wr W7 (Or.inr sz_b1)
  have OL7 := OL4.wr W7 g_b1
  have N7 := Fr.snoc X7 N4 g_b1
  obtain ⟨T8, X8, e8, st8⟩ := getS2 X7 hx hZ hown (host := "") (Or.inl (wd8 hw)) Via.refl e7 (pr5.ext OL7.2) (g := (mkF m 19 #[.val (.int p1), .unset, .unset, .unset, .unset, .unset] [(.int (2 : Int32)), (.ref b1), (.ref b1)])) rfl (hb hby at_19)
  obtain ⟨cl9, Ar9, q9, S9, M9, Hs9, G9⟩ := V7
  have hin9 : ¬ ((2 : Int32) < 0 ∨ cl9.slots.size ≤ ((2 : Int32)).toNatClampNeg) := inb_of S9 ⟨by decide, by decide⟩
  obtain ⟨T10, h10, X10, e10, W10, st10⟩ := stR X8 hx hZ e8 Ar9 (j := (2 : Int32)) hin9 rfl (Sto.ofV Ar9 q9 O1 (Ins.self (pr6.ext OL7.2))) (g := (mkF m 22 #[.val (.int p1), .unset, .unset, .unset, .unset, .unset] [(.ref w_ON_PEAK_ENERGY), (.int (2 : Int32)), (.ref b1), (.ref b1)])) rfl rfl (hb hby at_22)
  have V10 : Arv Z h10 b1 k1 (.object "com/example/tarcal/tarcal/schedules/Basis") (12 : Int32) [(.ref w_DAYS), (.ref w_ENERGY), (.ref w_ON_PEAK_ENERGY), .null, .null, .null, .null, .null, .null, .null, .null, .null] .null := Arv.set Ar9 q9 S9 M9 Hs9 G9 rfl W10 2 rfl (Nat.le_of_ble_eq_true rfl)
  have KK10 : Keep h0 h10 [] := KK7.wr W10 (Or.inr sz_b1)
  have OL10 := OL7.wr W10 g_b1
  have N10 := Fr.snoc X10 N7 g_b1
  obtain ⟨T11, X11, e11, st11⟩ := getS2 X10 hx hZ hown (host := "") (Or.inl (wd10 hw)) Via.refl e10 (pr7.ext OL10.2) (g := (mkF m 25 #[.val (.int p1), .unset, .unset, .unset, .unset, .unset] [(.int (3 : Int32)), (.ref b1), (.ref b1)])) rfl (hb hby at_25)
  obtain ⟨cl12, Ar12, q12, S12, M12, Hs12, G12⟩ := V10
  have hin12 : ¬ ((3 : Int32) < 0 ∨ cl12.slots.size ≤ ((3 : Int32)).toNatClampNeg) := inb_of S12 ⟨by decide, by decide⟩
  obtain ⟨T13, h13, X13, e13, W13, st13⟩ := stR X11 hx hZ e11 Ar12 (j := (3 : Int32)) hin12 rfl (Sto.ofV Ar12 q12 O1 (Ins.self (pr8.ext OL10.2))) (g := (mkF m 28 #[.val (.int p1), .unset, .unset, .unset, .unset, .unset] [(.ref w_OFF_PEAK_ENERGY), (.int (3 : Int32)), (.ref b1), (.ref b1)])) rfl rfl (hb hby at_28)
  have V13 : Arv Z h13 b1 k1 (.object "com/example/tarcal/tarcal/schedules/Basis") (12 : Int32) [(.ref w_DAYS), (.ref w_ENERGY), (.ref w_ON_PEAK_ENERGY), (.ref w_OFF_PEAK_ENERGY), .null, .null, .null, .null, .null, .null, .null, .null] .null := Arv.set Ar12 q12 S12 M12 Hs12 G12 rfl W13 3 rfl (Nat.le_of_ble_eq_true rfl)
  have KK13 : Keep h0 h13 [] := KK10.wr W13 (Or.inr sz_b1)
  have OL13 := OL10.wr W13 g_b1
  have N13 := Fr.snoc X13 N10 g_b1
  obtain ⟨T14, X14, e14, st14⟩ := getS2 X13 hx hZ hown (host := "") (Or.inl (wd12 hw)) Via.refl e13 (pr9.ext OL13.2) (g := (mkF m 31 #[.val (.int p1), .unset, .unset, .unset, .unset, .unset] [(.int (4 : Int32)), (.ref b1), (.ref b1)])) rfl (hb hby at_31)
  obtain ⟨cl15, Ar15, q15, S15, M15, Hs15, G15⟩ := V13
  have hin15 : ¬ ((4 : Int32) < 0 ∨ cl15.slots.size ≤ ((4 : Int32)).toNatClampNeg) := inb_of S15 ⟨by decide, by decide⟩
  obtain ⟨T16, h16, X16, e16, W16, st16⟩ := stR X14 hx hZ e14 Ar15 (j := (4 : Int32)) hin15 rfl (Sto.ofV Ar15 q15 O1 (Ins.self (pr10.ext OL13.2))) (g := (mkF m 34 #[.val (.int p1), .unset, .unset, .unset, .unset, .unset] [(.ref w_BILLING_DEMAND_DAYS), (.int (4 : Int32)), (.ref b1), (.ref b1)])) rfl rfl (hb hby at_34)
  have V16 : Arv Z h16 b1 k1 (.object "com/example/tarcal/tarcal/schedules/Basis") (12 : Int32) [(.ref w_DAYS), (.ref w_ENERGY), (.ref w_ON_PEAK_ENERGY), (.ref w_OFF_PEAK_ENERGY), (.ref w_BILLING_DEMAND_DAYS), .null, .null, .null, .null, .null, .null, .null] .null := Arv.set Ar15 q15 S15 M15 Hs15 G15 rfl W16 4 rfl (Nat.le_of_ble_eq_true rfl)
  have KK16 : Keep h0 h16 [] := KK13.wr W16 (Or.inr sz_b1)
  have OL16 := OL13.wr W16 g_b1
  have N16 := Fr.snoc X16 N13 g_b1
  obtain ⟨T17, X17, e17, st17⟩ := getS2 X16 hx hZ hown (host := "") (Or.inl (wd14 hw)) Via.refl e16 (pr11.ext OL16.2) (g := (mkF m 37 #[.val (.int p1), .unset, .unset, .unset, .unset, .unset] [(.int (5 : Int32)), (.ref b1), (.ref b1)])) rfl (hb hby at_37)
  obtain ⟨cl18, Ar18, q18, S18, M18, Hs18, G18⟩ := V16
  have hin18 : ¬ ((5 : Int32) < 0 ∨ cl18.slots.size ≤ ((5 : Int32)).toNatClampNeg) := inb_of S18 ⟨by decide, by decide⟩
  obtain ⟨T19, h19, X19, e19, W19, st19⟩ := stR X17 hx hZ e17 Ar18 (j := (5 : Int32)) hin18 rfl (Sto.ofV Ar18 q18 O1 (Ins.self (pr12.ext OL16.2))) (g := (mkF m 40 #[.val (.int p1), .unset, .unset, .unset, .unset, .unset] [(.ref w_METERED_DEMAND_DAYS), (.int (5 : Int32)), (.ref b1), (.ref b1)])) rfl rfl (hb hby at_40)
  have V19 : Arv Z h19 b1 k1 (.object "com/example/tarcal/tarcal/schedules/Basis") (12 : Int32) [(.ref w_DAYS), (.ref w_ENERGY), (.ref w_ON_PEAK_ENERGY), (.ref w_OFF_PEAK_ENERGY), (.ref w_BILLING_DEMAND_DAYS), (.ref w_METERED_DEMAND_DAYS), .null, .null, .null, .null, .null, .null] .null := Arv.set Ar18 q18 S18 M18 Hs18 G18 rfl W19 5 rfl (Nat.le_of_ble_eq_true rfl)
  have KK19 : Keep h0 h19 [] := KK16.wr W19 (Or.inr sz_b1)
  have OL19 := OL16.wr W19 g_b1
  have N19 := Fr.snoc X19 N16 g_b1
  obtain ⟨T20, X20, e20, st20⟩ := getS2 X19 hx hZ hown (host := "") (Or.inl (wd16 hw)) Via.refl e19 (pr13.ext OL19.2) (g := (mkF m 44 #[.val (.int p1), .unset, .unset, .unset, .unset, .unset] [(.int (6 : Int32)), (.ref b1), (.ref b1)])) rfl (hb hby at_44)
  obtain ⟨cl21, Ar21, q21, S21, M21, Hs21, G21⟩ := V19
  have hin21 : ¬ ((6 : Int32) < 0 ∨ cl21.slots.size ≤ ((6 : Int32)).toNatClampNeg) := inb_of S21 ⟨by decide, by decide⟩
  obtain ⟨T22, h22, X22, e22, W22, st22⟩ := stR X20 hx hZ e20 Ar21 (j := (6 : Int32)) hin21 rfl (Sto.ofV Ar21 q21 O1 (Ins.self (pr14.ext OL19.2))) (g := (mkF m 47 #[.val (.int p1), .unset, .unset, .unset, .unset, .unset] [(.ref w_FIXTURE_DAYS), (.int (6 : Int32)), (.ref b1), (.ref b1)])) rfl rfl (hb hby at_47)
  have V22 : Arv Z h22 b1 k1 (.object "com/example/tarcal/tarcal/schedules/Basis") (12 : Int32) [(.ref w_DAYS), (.ref w_ENERGY), (.ref w_ON_PEAK_ENERGY), (.ref w_OFF_PEAK_ENERGY), (.ref w_BILLING_DEMAND_DAYS), (.ref w_METERED_DEMAND_DAYS), (.ref w_FIXTURE_DAYS), .null, .null, .null, .null, .null] .null := Arv.set Ar21 q21 S21 M21 Hs21 G21 rfl W22 6 rfl (Nat.le_of_ble_eq_true rfl)
  have KK22 : Keep h0 h22 [] := KK19.wr W22 (Or.inr sz_b1)
  have OL22 := OL19.wr W22 g_b1
  have N22 := Fr.snoc X22 N19 g_b1
  obtain ⟨T23, X23, e23, st23⟩ := getS2 X22 hx hZ hown (host := "") (Or.inl (wd18 hw)) Via.refl e22 (pr15.ext OL22.2) (g := (mkF m 51 #[.val (.int p1), .unset, .unset, .unset, .unset, .unset] [(.int (7 : Int32)), (.ref b1), (.ref b1)])) rfl (hb hby at_51)
  obtain ⟨cl24, Ar24, q24, S24, M24, Hs24, G24⟩ := V22
  have hin24 : ¬ ((7 : Int32) < 0 ∨ cl24.slots.size ≤ ((7 : Int32)).toNatClampNeg) := inb_of S24 ⟨by decide, by decide⟩
  obtain ⟨T25, h25, X25, e25, W25, st25⟩ := stR X23 hx hZ e23 Ar24 (j := (7 : Int32)) hin24 rfl (Sto.ofV Ar24 q24 O1 (Ins.self (pr16.ext OL22.2))) (g := (mkF m 54 #[.val (.int p1), .unset, .unset, .unset, .unset, .unset] [(.ref w_HIGHEST_HOUR_ENERGY), (.int (7 : Int32)), (.ref b1), (.ref b1)])) rfl rfl (hb hby at_54)
  have V25 : Arv Z h25 b1 k1 (.object "com/example/tarcal/tarcal/schedules/Basis") (12 : Int32) [(.ref w_DAYS), (.ref w_ENERGY), (.ref w_ON_PEAK_ENERGY), (.ref w_OFF_PEAK_ENERGY), (.ref w_BILLING_DEMAND_DAYS), (.ref w_METERED_DEMAND_DAYS), (.ref w_FIXTURE_DAYS), (.ref w_HIGHEST_HOUR_ENERGY), .null, .null, .null, .null] .null := Arv.set Ar24 q24 S24 M24 Hs24 G24 rfl W25 7 rfl (Nat.le_of_ble_eq_true rfl)
  have KK25 : Keep h0 h25 [] := KK22.wr W25 (Or.inr sz_b1)
  have OL25 := OL22.wr W25 g_b1
  have N25 := Fr.snoc X25 N22 g_b1
  obtain ⟨T26, X26, e26, st26⟩ := getS2 X25 hx hZ hown (host := "") (Or.inl (wd20 hw)) Via.refl e25 (pr17.ext OL25.2) (g := (mkF m 58 #[.val (.int p1), .unset, .unset, .unset, .unset, .unset] [(.int (8 : Int32)), (.ref b1), (.ref b1)])) rfl (hb hby at_58)
  obtain ⟨cl27, Ar27, q27, S27, M27, Hs27, G27⟩ := V25
  have hin27 : ¬ ((8 : Int32) < 0 ∨ cl27.slots.size ≤ ((8 : Int32)).toNatClampNeg) := inb_of S27 ⟨by decide, by decide⟩
  obtain ⟨T28, h28, X28, e28, W28, st28⟩ := stR X26 hx hZ e26 Ar27 (j := (8 : Int32)) hin27 rfl (Sto.ofV Ar27 q27 O1 (Ins.self (pr18.ext OL25.2))) (g := (mkF m 61 #[.val (.int p1), .unset, .unset, .unset, .unset, .unset] [(.ref w_GAS_INDEXED_ENERGY), (.int (8 : Int32)), (.ref b1), (.ref b1)])) rfl rfl (hb hby at_61)
  have V28 : Arv Z h28 b1 k1 (.object "com/example/tarcal/tarcal/schedules/Basis") (12 : Int32) [(.ref w_DAYS), (.ref w_ENERGY), (.ref w_ON_PEAK_ENERGY), (.ref w_OFF_PEAK_ENERGY), (.ref w_BILLING_DEMAND_DAYS), (.ref w_METERED_DEMAND_DAYS), (.ref w_FIXTURE_DAYS), (.ref w_HIGHEST_HOUR_ENERGY), (.ref w_GAS_INDEXED_ENERGY), .null, .null, .null] .null := Arv.set Ar27 q27 S27 M27 Hs27 G27 rfl W28 8 rfl (Nat.le_of_ble_eq_true rfl)
  have KK28 : Keep h0 h28 [] := KK25.wr W28 (Or.inr sz_b1)
  have OL28 := OL25.wr W28 g_b1
  have N28 := Fr.snoc X28 N25 g_b1
  obtain ⟨T29, X29, e29, st29⟩ := getS2 X28 hx hZ hown (host := "") (Or.inl (wd22 hw)) Via.refl e28 (pr19.ext OL28.2) (g := (mkF m 65 #[.val (.int p1), .unset, .unset, .unset, .unset, .unset] [(.int (9 : Int32)), (.ref b1), (.ref b1)])) rfl (hb hby at_65)
  obtain ⟨cl30, Ar30, q30, S30, M30, Hs30, G30⟩ := V28
  have hin30 : ¬ ((9 : Int32) < 0 ∨ cl30.slots.size ≤ ((9 : Int32)).toNatClampNeg) := inb_of S30 ⟨by decide, by decide⟩
  obtain ⟨T31, h31, X31, e31, W31, st31⟩ := stR X29 hx hZ e29 Ar30 (j := (9 : Int32)) hin30 rfl (Sto.ofV Ar30 q30 O1 (Ins.self (pr20.ext OL28.2))) (g := (mkF m 68 #[.val (.int p1), .unset, .unset, .unset, .unset, .unset] [(.ref w_POOL_PRICED_ENERGY), (.int (9 : Int32)), (.ref b1), (.ref b1)])) rfl rfl (hb hby at_68)
  have V31 : Arv Z h31 b1 k1 (.object "com/example/tarcal/tarcal/schedules/Basis") (12 : Int32) [(.ref w_DAYS), (.ref w_ENERGY), (.ref w_ON_PEAK_ENERGY), (.ref w_OFF_PEAK_ENERGY), (.ref w_BILLING_DEMAND_DAYS), (.ref w_METERED_DEMAND_DAYS), (.ref w_FIXTURE_DAYS), (.ref w_HIGHEST_HOUR_ENERGY), (.ref w_GAS_INDEXED_ENERGY), (.ref w_POOL_PRICED_ENERGY), .null, .null] .null := Arv.set Ar30 q30 S30 M30 Hs30 G30 rfl W31 9 rfl (Nat.le_of_ble_eq_true rfl)
  have KK31 : Keep h0 h31 [] := KK28.wr W31 (Or.inr sz_b1)
  have OL31 := OL28.wr W31 g_b1
  have N31 := Fr.snoc X31 N28 g_b1
  obtain ⟨T32, X32, e32, st32⟩ := getS2 X31 hx hZ hown (host := "") (Or.inl (wd24 hw)) Via.refl e31 (pr21.ext OL31.2) (g := (mkF m 72 #[.val (.int p1), .unset, .unset, .unset, .unset, .unset] [(.int (10 : Int32)), (.ref b1), (.ref b1)])) rfl (hb hby at_72)
  obtain ⟨cl33, Ar33, q33, S33, M33, Hs33, G33⟩ := V31
  have hin33 : ¬ ((10 : Int32) < 0 ∨ cl33.slots.size ≤ ((10 : Int32)).toNatClampNeg) := inb_of S33 ⟨by decide, by decide⟩
  obtain ⟨T34, h34, X34, e34, W34, st34⟩ := stR X32 hx hZ e32 Ar33 (j := (10 : Int32)) hin33 rfl (Sto.ofV Ar33 q33 O1 (Ins.self (pr22.ext OL31.2))) (g := (mkF m 75 #[.val (.int p1), .unset, .unset, .unset, .unset, .unset] [(.ref w_ISO_COSTS), (.int (10 : Int32)), (.ref b1), (.ref b1)])) rfl rfl (hb hby at_75)
  have V34 : Arv Z h34 b1 k1 (.object "com/example/tarcal/tarcal/schedules/Basis") (12 : Int32) [(.ref w_DAYS), (.ref w_ENERGY), (.ref w_ON_PEAK_ENERGY), (.ref w_OFF_PEAK_ENERGY), (.ref w_BILLING_DEMAND_DAYS), (.ref w_METERED_DEMAND_DAYS), (.ref w_FIXTURE_DAYS), (.ref w_HIGHEST_HOUR_ENERGY), (.ref w_GAS_INDEXED_ENERGY), (.ref w_POOL_PRICED_ENERGY), (.ref w_ISO_COSTS), .null] .null := Arv.set Ar33 q33 S33 M33 Hs33 G33 rfl W34 10 rfl (Nat.le_of_ble_eq_true rfl)
  have KK34 : Keep h0 h34 [] := KK31.wr W34 (Or.inr sz_b1)
  have OL34 := OL31.wr W34 g_b1
  have N34 := Fr.snoc X34 N31 g_b1
  obtain ⟨T35, X35, e35, st35⟩ := getS2 X34 hx hZ hown (host := "") (Or.inl (wd26 hw)) Via.refl e34 (pr23.ext OL34.2) (g := (mkF m 79 #[.val (.int p1), .unset, .unset, .unset, .unset, .unset] [(.int (11 : Int32)), (.ref b1), (.ref b1)])) rfl (hb hby at_79)
  obtain ⟨cl36, Ar36, q36, S36, M36, Hs36, G36⟩ := V34
  have hin36 : ¬ ((11 : Int32) < 0 ∨ cl36.slots.size ≤ ((11 : Int32)).toNatClampNeg) := inb_of S36 ⟨by decide, by decide⟩
  obtain ⟨T37, h37, X37, e37, W37, st37⟩ := stR X35 hx hZ e35 Ar36 (j := (11 : Int32)) hin36 rfl (Sto.ofV Ar36 q36 O1 (Ins.self (pr24.ext OL34.2))) (g := (mkF m 82 #[.val (.int p1), .unset, .unset, .unset, .unset, .unset] [(.ref w_DISTRIBUTION_ACCESS_CHARGES), (.int (11 : Int32)), (.ref b1), (.ref b1)])) rfl rfl (hb hby at_82)
  have V37 : Arv Z h37 b1 k1 (.object "com/example/tarcal/tarcal/schedules/Basis") (12 : Int32) [(.ref w_DAYS), (.ref w_ENERGY), (.ref w_ON_PEAK_ENERGY), (.ref w_OFF_PEAK_ENERGY), (.ref w_BILLING_DEMAND_DAYS), (.ref w_METERED_DEMAND_DAYS), (.ref w_FIXTURE_DAYS), (.ref w_HIGHEST_HOUR_ENERGY), (.ref w_GAS_INDEXED_ENERGY), (.ref w_POOL_PRICED_ENERGY), (.ref w_ISO_COSTS), (.ref w_DISTRIBUTION_ACCESS_CHARGES)] .null := Arv.set Ar36 q36 S36 M36 Hs36 G36 rfl W37 11 rfl (Nat.le_of_ble_eq_true rfl)
  have KK37 : Keep h0 h37 [] := KK34.wr W37 (Or.inr sz_b1)
  have OL37 := OL34.wr W37 g_b1
  have N37 := Fr.snoc X37 N34 g_b1
  obtain ⟨cl38, Ar38, -, S38, -, Hs38, -⟩ := V37
  have hin38 : ¬ ((8 : Int32) < 0 ∨ cl38.slots.size ≤ ((8 : Int32)).toNatClampNeg) := inb_of S38 ⟨by decide, by decide⟩
  have hat38 : cl38.slots[((8 : Int32)).toNatClampNeg]? = some (.ref w_GAS_INDEXED_ENERGY) := Hs38.at hin38 rfl
  obtain ⟨cq39, kq39, q39a, q39b, q39c⟩ := isOf hZ e37 (pr18.ext OL37.2)
  obtain ⟨_, _, ⟨T39, L39, k39, n39⟩, -, X39, ⟨Lc39, hQ39, l39, y39, z39⟩, st39⟩ := X37.virtualBack hx (y := (⟨"com/example/tarcal/tarcal/schedules/Basis", "perPeriod", "()Z"⟩ : MethodName)) (z := (⟨"com/example/tarcal/tarcal/schedules/Basis", "perPeriod", "()Z"⟩ : MethodName)) hown (mvT hZ (wd29 hw)) (mvT hZ (wd30 hw)) (notFace_of_selects (args := #[]) (mvT hZ (wd32 hw))) (mvT hZ (wd32 hw)) (mvT hZ (wd31 hw)) (by decide) (backOf (W := 0) (rm1_2 l Z a0 hw [] w_GAS_INDEXED_ENERGY w_HIGHEST_HOUR_ENERGY h37 n0 OL37 pr15 pr26 pr17) hZ (wd33 hw) (wd3 hw) (by decide) (by decide)) q39a q39c (g := (mkF m 122 #[.val (.int p1), .val (.ref b1), .val (.int (8 : Int32)), .val (.ref w_GAS_INDEXED_ENERGY), .val (.int (1 : Int32)), .unset] [(.ref w_GAS_INDEXED_ENERGY)])) rfl (by rw [hml]; rfl) (Steps.refl _) (argsL := []) (rest := []) (lenOf pd_0 rfl) rfl (by show 2 * 0 + _ ≤ _; exact Nat.le_of_eq rfl) (hb hby at_122) (fun _ _ => ⟨rfl, e37, (by decide : 1 + 0 ≤ _), (by decide : 12 + 0 ≤ _)⟩)
  dsimp only [Pt.U, Pt.locs, Pt.cells, Pt.slots] at X39 l39 y39 z39 st39 hQ39
  subst l39 y39 z39
  obtain ⟨rfl, Nq39, ec39⟩ := hQ39
  have N39 := Fr.app N37 Nq39
  obtain ⟨cq40, kq40, q40a, q40b, q40c⟩ := isOf hZ ec39 (pr18.ext OL37.2)
  obtain ⟨_, _, ⟨T40, L40, k40, n40⟩, -, X40, ⟨Lc40, hQ40, l40, y40, z40⟩, st40⟩ := X39.virtualBack hx (y := (⟨"com/example/tarcal/tarcal/schedules/Basis", "onDemand", "()Z"⟩ : MethodName)) (z := (⟨"com/example/tarcal/tarcal/schedules/Basis", "onDemand", "()Z"⟩ : MethodName)) hown (mvT hZ (wd37 hw)) (mvT hZ (wd38 hw)) (notFace_of_selects (args := #[]) (mvT hZ (wd40 hw))) (mvT hZ (wd40 hw)) (mvT hZ (wd39 hw)) (by decide) (backOf (W := 0) (rm2_0 l Z a0 hw [] w_GAS_INDEXED_ENERGY h37 n0 OL37 pr27) hZ (wd41 hw) (wd3 hw) (by decide) (by decide)) q40a q40c (g := (mkF m 142 #[.val (.int p1), .val (.ref b1), .val (.int (8 : Int32)), .val (.ref w_GAS_INDEXED_ENERGY), .val (.int (1 : Int32)), .val (.int (1 : Int32))] [(.ref w_GAS_INDEXED_ENERGY)])) rfl (by rw [hml]; rfl) (Steps.refl _) (argsL := []) (rest := []) (lenOf pd_0 rfl) rfl (by show 2 * 0 + _ ≤ _; exact Nat.le_of_eq rfl) (hb hby at_142) (fun _ _ => ⟨rfl, ec39, (by decide : 1 + 0 ≤ _), (by decide : 12 + 0 ≤ _)⟩)
  dsimp only [Pt.U, Pt.locs, Pt.cells, Pt.slots] at X40 l40 y40 z40 st40 hQ40
  subst l40 y40 z40
  obtain ⟨rfl, Nq40, ec40⟩ := hQ40
  have N40 := Fr.app N39 Nq40
  obtain ⟨cq41, kq41, q41a, q41b, q41c⟩ := isOf hZ ec40 (pr18.ext OL37.2)
  obtain ⟨_, _, ⟨T41, L41, k41, n41⟩, -, X41, ⟨Lc41, hQ41, l41, y41, z41⟩, st41⟩ := X40.virtualBack hx (y := (⟨"com/example/tarcal/tarcal/schedules/Basis", "byTimeOfUse", "()Z"⟩ : MethodName)) (z := (⟨"com/example/tarcal/tarcal/schedules/Basis", "byTimeOfUse", "()Z"⟩ : MethodName)) hown (mvT hZ (wd44 hw)) (mvT hZ (wd45 hw)) (notFace_of_selects (args := #[]) (mvT hZ (wd47 hw))) (mvT hZ (wd47 hw)) (mvT hZ (wd46 hw)) (by decide) (backOf (W := 0) (rm3_0 l Z a0 hw [] w_GAS_INDEXED_ENERGY h37 n0 OL37 pr28) hZ (wd48 hw) (wd3 hw) (by decide) (by decide)) q41a q41c (g := (mkF m 149 #[.val (.int p1), .val (.ref b1), .val (.int (8 : Int32)), .val (.ref w_GAS_INDEXED_ENERGY), .val (.int (1 : Int32)), .val (.int (1 : Int32))] [(.ref w_GAS_INDEXED_ENERGY)])) rfl (by rw [hml]; rfl) (Steps.refl _) (argsL := []) (rest := []) (lenOf pd_0 rfl) rfl (by show 2 * 0 + _ ≤ _; exact Nat.le_of_eq rfl) (hb hby at_149) (fun _ _ => ⟨rfl, ec40, (by decide : 1 + 0 ≤ _), (by decide : 12 + 0 ≤ _)⟩)
  dsimp only [Pt.U, Pt.locs, Pt.cells, Pt.slots] at X41 l41 y41 z41 st41 hQ41
  subst l41 y41 z41
  obtain ⟨rfl, Nq41, ec41⟩ := hQ41
  have N41 := Fr.app N40 Nq41
  obtain ⟨cq42, kq42, q42a, q42b, q42c⟩ := isOf hZ ec41 (pr18.ext OL37.2)
  obtain ⟨_, _, ⟨T42, L42, k42, n42⟩, -, X42, ⟨Lc42, hQ42, l42, y42, z42⟩, st42⟩ := X41.virtualBack hx (y := (⟨"com/example/tarcal/tarcal/schedules/Basis", "passedThrough", "()Z"⟩ : MethodName)) (z := (⟨"com/example/tarcal/tarcal/schedules/Basis", "passedThrough", "()Z"⟩ : MethodName)) hown (mvT hZ (wd51 hw)) (mvT hZ (wd52 hw)) (notFace_of_selects (args := #[]) (mvT hZ (wd54 hw))) (mvT hZ (wd54 hw)) (mvT hZ (wd53 hw)) (by decide) (backOf (W := 0) (rm4_0 l Z a0 hw [] w_GAS_INDEXED_ENERGY w_ISO_COSTS h37 n0 OL37 pr21 pr29) hZ (wd55 hw) (wd3 hw) (by decide) (by decide)) q42a q42c (g := (mkF m 156 #[.val (.int p1), .val (.ref b1), .val (.int (8 : Int32)), .val (.ref w_GAS_INDEXED_ENERGY), .val (.int (1 : Int32)), .val (.int (1 : Int32))] [(.ref w_GAS_INDEXED_ENERGY)])) rfl (by rw [hml]; rfl) (Steps.refl _) (argsL := []) (rest := []) (lenOf pd_0 rfl) rfl (by show 2 * 0 + _ ≤ _; exact Nat.le_of_eq rfl) (hb hby at_156) (fun _ _ => ⟨rfl, ec41, (by decide : 1 + 0 ≤ _), (by decide : 12 + 0 ≤ _)⟩)
  dsimp only [Pt.U, Pt.locs, Pt.cells, Pt.slots] at X42 l42 y42 z42 st42 hQ42
  subst l42 y42 z42
  obtain ⟨rfl, Nq42, ec42⟩ := hQ42
  have N42 := Fr.app N41 Nq42
  obtain ⟨fs, hr, hrun, hended, hW, hsame⟩ := X42.leave (v := some (.int (1 : Int32))) (fun h => by rw [Bd.returns] at h; cases h)
  refine ⟨_, _, pre0 _ ?_, hrun, hended, _, _, rfl, ?_, ⟨_, rfl⟩, hW, hsame.mono (by decide) (by decide)⟩
  · show Steps p.tables e below (s₁.setTop (mkF m 0 #[.val (.int p1), .unset, .unset, .unset, .unset, .unset] [])) _
    refine XS.bipush X0.here hx rfl (hb hby at_0) ?_
    show Steps p.tables e below (s₁.setTop (mkF m 2 #[.val (.int p1), .unset, .unset, .unset, .unset, .unset] [(.int (12 : Int32))])) _
    refine st1 _ ?_
    show Steps p.tables e below (T1.setTop (mkF m 5 #[.val (.int p1), .unset, .unset, .unset, .unset, .unset] [(.ref b1)])) _
    refine XS.dup X1.here hx rfl (hb hby at_5) rfl rfl ?_
    show Steps p.tables e below (T1.setTop (mkF m 6 #[.val (.int p1), .unset, .unset, .unset, .unset, .unset] [(.ref b1), (.ref b1)])) _
    refine XS.iconst X1.here hx rfl (hb hby at_6) ?_
    show Steps p.tables e below (T1.setTop (mkF m 7 #[.val (.int p1), .unset, .unset, .unset, .unset, .unset] [(.int (0 : Int32)), (.ref b1), (.ref b1)])) _
    refine st2 _ ?_
    show Steps p.tables e below (T2.setTop (mkF m 10 #[.val (.int p1), .unset, .unset, .unset, .unset, .unset] [(.ref w_DAYS), (.int (0 : Int32)), (.ref b1), (.ref b1)])) _
    refine st4 _ ?_
    show Steps p.tables e below (T4.setTop (mkF m 11 #[.val (.int p1), .unset, .unset, .unset, .unset, .unset] [(.ref b1)])) _
    refine XS.dup X4.here hx rfl (hb hby at_11) rfl rfl ?_
    show Steps p.tables e below (T4.setTop (mkF m 12 #[.val (.int p1), .unset, .unset, .unset, .unset, .unset] [(.ref b1), (.ref b1)])) _
    refine XS.iconst X4.here hx rfl (hb hby at_12) ?_
    show Steps p.tables e below (T4.setTop (mkF m 13 #[.val (.int p1), .unset, .unset, .unset, .unset, .unset] [(.int (1 : Int32)), (.ref b1), (.ref b1)])) _
    refine st5 _ ?_
    show Steps p.tables e below (T5.setTop (mkF m 16 #[.val (.int p1), .unset, .unset, .unset, .unset, .unset] [(.ref w_ENERGY), (.int (1 : Int32)), (.ref b1), (.ref b1)])) _
    refine st7 _ ?_
    show Steps p.tables e below (T7.setTop (mkF m 17 #[.val (.int p1), .unset, .unset, .unset, .unset, .unset] [(.ref b1)])) _
    refine XS.dup X7.here hx rfl (hb hby at_17) rfl rfl ?_
    show Steps p.tables e below (T7.setTop (mkF m 18 #[.val (.int p1), .unset, .unset, .unset, .unset, .unset] [(.ref b1), (.ref b1)])) _
    refine XS.iconst X7.here hx rfl (hb hby at_18) ?_
    show Steps p.tables e below (T7.setTop (mkF m 19 #[.val (.int p1), .unset, .unset, .unset, .unset, .unset] [(.int (2 : Int32)), (.ref b1), (.ref b1)])) _
    refine st8 _ ?_
    show Steps p.tables e below (T8.setTop (mkF m 22 #[.val (.int p1), .unset, .unset, .unset, .unset, .unset] [(.ref w_ON_PEAK_ENERGY), (.int (2 : Int32)), (.ref b1), (.ref b1)])) _
    refine st10 _ ?_
    show Steps p.tables e below (T10.setTop (mkF m 23 #[.val (.int p1), .unset, .unset, .unset, .unset, .unset] [(.ref b1)])) _
    refine XS.dup X10.here hx rfl (hb hby at_23) rfl rfl ?_
    show Steps p.tables e below (T10.setTop (mkF m 24 #[.val (.int p1), .unset, .unset, .unset, .unset, .unset] [(.ref b1), (.ref b1)])) _
    refine XS.iconst X10.here hx rfl (hb hby at_24) ?_
    show Steps p.tables e below (T10.setTop (mkF m 25 #[.val (.int p1), .unset, .unset, .unset, .unset, .unset] [(.int (3 : Int32)), (.ref b1), (.ref b1)])) _
    refine st11 _ ?_
    show Steps p.tables e below (T11.setTop (mkF m 28 #[.val (.int p1), .unset, .unset, .unset, .unset, .unset] [(.ref w_OFF_PEAK_ENERGY), (.int (3 : Int32)), (.ref b1), (.ref b1)])) _
    refine st13 _ ?_
    show Steps p.tables e below (T13.setTop (mkF m 29 #[.val (.int p1), .unset, .unset, .unset, .unset, .unset] [(.ref b1)])) _
    refine XS.dup X13.here hx rfl (hb hby at_29) rfl rfl ?_
    show Steps p.tables e below (T13.setTop (mkF m 30 #[.val (.int p1), .unset, .unset, .unset, .unset, .unset] [(.ref b1), (.ref b1)])) _
    refine XS.iconst X13.here hx rfl (hb hby at_30) ?_
    show Steps p.tables e below (T13.setTop (mkF m 31 #[.val (.int p1), .unset, .unset, .unset, .unset, .unset] [(.int (4 : Int32)), (.ref b1), (.ref b1)])) _
    refine st14 _ ?_
    show Steps p.tables e below (T14.setTop (mkF m 34 #[.val (.int p1), .unset, .unset, .unset, .unset, .unset] [(.ref w_BILLING_DEMAND_DAYS), (.int (4 : Int32)), (.ref b1), (.ref b1)])) _
    refine st16 _ ?_
    show Steps p.tables e below (T16.setTop (mkF m 35 #[.val (.int p1), .unset, .unset, .unset, .unset, .unset] [(.ref b1)])) _
    refine XS.dup X16.here hx rfl (hb hby at_35) rfl rfl ?_
    show Steps p.tables e below (T16.setTop (mkF m 36 #[.val (.int p1), .unset, .unset, .unset, .unset, .unset] [(.ref b1), (.ref b1)])) _
    refine XS.iconst X16.here hx rfl (hb hby at_36) ?_
    show Steps p.tables e below (T16.setTop (mkF m 37 #[.val (.int p1), .unset, .unset, .unset, .unset, .unset] [(.int (5 : Int32)), (.ref b1), (.ref b1)])) _
    refine st17 _ ?_
    show Steps p.tables e below (T17.setTop (mkF m 40 #[.val (.int p1), .unset, .unset, .unset, .unset, .unset] [(.ref w_METERED_DEMAND_DAYS), (.int (5 : Int32)), (.ref b1), (.ref b1)])) _
    refine st19 _ ?_
    show Steps p.tables e below (T19.setTop (mkF m 41 #[.val (.int p1), .unset, .unset, .unset, .unset, .unset] [(.ref b1)])) _
    refine XS.dup X19.here hx rfl (hb hby at_41) rfl rfl ?_
    show Steps p.tables e below (T19.setTop (mkF m 42 #[.val (.int p1), .unset, .unset, .unset, .unset, .unset] [(.ref b1), (.ref b1)])) _
    refine XS.bipush X19.here hx rfl (hb hby at_42) ?_
    show Steps p.tables e below (T19.setTop (mkF m 44 #[.val (.int p1), .unset, .unset, .unset, .unset, .unset] [(.int (6 : Int32)), (.ref b1), (.ref b1)])) _
    refine st20 _ ?_
    show Steps p.tables e below (T20.setTop (mkF m 47 #[.val (.int p1), .unset, .unset, .unset, .unset, .unset] [(.ref w_FIXTURE_DAYS), (.int (6 : Int32)), (.ref b1), (.ref b1)])) _
    refine st22 _ ?_
    show Steps p.tables e below (T22.setTop (mkF m 48 #[.val (.int p1), .unset, .unset, .unset, .unset, .unset] [(.ref b1)])) _
    refine XS.dup X22.here hx rfl (hb hby at_48) rfl rfl ?_
    show Steps p.tables e below (T22.setTop (mkF m 49 #[.val (.int p1), .unset, .unset, .unset, .unset, .unset] [(.ref b1), (.ref b1)])) _
    refine XS.bipush X22.here hx rfl (hb hby at_49) ?_
    show Steps p.tables e below (T22.setTop (mkF m 51 #[.val (.int p1), .unset, .unset, .unset, .unset, .unset] [(.int (7 : Int32)), (.ref b1), (.ref b1)])) _
    refine st23 _ ?_
    show Steps p.tables e below (T23.setTop (mkF m 54 #[.val (.int p1), .unset, .unset, .unset, .unset, .unset] [(.ref w_HIGHEST_HOUR_ENERGY), (.int (7 : Int32)), (.ref b1), (.ref b1)])) _
    refine st25 _ ?_
    show Steps p.tables e below (T25.setTop (mkF m 55 #[.val (.int p1), .unset, .unset, .unset, .unset, .unset] [(.ref b1)])) _
    refine XS.dup X25.here hx rfl (hb hby at_55) rfl rfl ?_
    show Steps p.tables e below (T25.setTop (mkF m 56 #[.val (.int p1), .unset, .unset, .unset, .unset, .unset] [(.ref b1), (.ref b1)])) _
    refine XS.bipush X25.here hx rfl (hb hby at_56) ?_
    show Steps p.tables e below (T25.setTop (mkF m 58 #[.val (.int p1), .unset, .unset, .unset, .unset, .unset] [(.int (8 : Int32)), (.ref b1), (.ref b1)])) _
    refine st26 _ ?_
    show Steps p.tables e below (T26.setTop (mkF m 61 #[.val (.int p1), .unset, .unset, .unset, .unset, .unset] [(.ref w_GAS_INDEXED_ENERGY), (.int (8 : Int32)), (.ref b1), (.ref b1)])) _
    refine st28 _ ?_
    show Steps p.tables e below (T28.setTop (mkF m 62 #[.val (.int p1), .unset, .unset, .unset, .unset, .unset] [(.ref b1)])) _
    refine XS.dup X28.here hx rfl (hb hby at_62) rfl rfl ?_
    show Steps p.tables e below (T28.setTop (mkF m 63 #[.val (.int p1), .unset, .unset, .unset, .unset, .unset] [(.ref b1), (.ref b1)])) _
    refine XS.bipush X28.here hx rfl (hb hby at_63) ?_
    show Steps p.tables e below (T28.setTop (mkF m 65 #[.val (.int p1), .unset, .unset, .unset, .unset, .unset] [(.int (9 : Int32)), (.ref b1), (.ref b1)])) _
    refine st29 _ ?_
    show Steps p.tables e below (T29.setTop (mkF m 68 #[.val (.int p1), .unset, .unset, .unset, .unset, .unset] [(.ref w_POOL_PRICED_ENERGY), (.int (9 : Int32)), (.ref b1), (.ref b1)])) _
    refine st31 _ ?_
    show Steps p.tables e below (T31.setTop (mkF m 69 #[.val (.int p1), .unset, .unset, .unset, .unset, .unset] [(.ref b1)])) _
    refine XS.dup X31.here hx rfl (hb hby at_69) rfl rfl ?_
    show Steps p.tables e below (T31.setTop (mkF m 70 #[.val (.int p1), .unset, .unset, .unset, .unset, .unset] [(.ref b1), (.ref b1)])) _
    refine XS.bipush X31.here hx rfl (hb hby at_70) ?_
    show Steps p.tables e below (T31.setTop (mkF m 72 #[.val (.int p1), .unset, .unset, .unset, .unset, .unset] [(.int (10 : Int32)), (.ref b1), (.ref b1)])) _
    refine st32 _ ?_
    show Steps p.tables e below (T32.setTop (mkF m 75 #[.val (.int p1), .unset, .unset, .unset, .unset, .unset] [(.ref w_ISO_COSTS), (.int (10 : Int32)), (.ref b1), (.ref b1)])) _
    refine st34 _ ?_
    show Steps p.tables e below (T34.setTop (mkF m 76 #[.val (.int p1), .unset, .unset, .unset, .unset, .unset] [(.ref b1)])) _
    refine XS.dup X34.here hx rfl (hb hby at_76) rfl rfl ?_
    show Steps p.tables e below (T34.setTop (mkF m 77 #[.val (.int p1), .unset, .unset, .unset, .unset, .unset] [(.ref b1), (.ref b1)])) _
    refine XS.bipush X34.here hx rfl (hb hby at_77) ?_
    show Steps p.tables e below (T34.setTop (mkF m 79 #[.val (.int p1), .unset, .unset, .unset, .unset, .unset] [(.int (11 : Int32)), (.ref b1), (.ref b1)])) _
    refine st35 _ ?_
    show Steps p.tables e below (T35.setTop (mkF m 82 #[.val (.int p1), .unset, .unset, .unset, .unset, .unset] [(.ref w_DISTRIBUTION_ACCESS_CHARGES), (.int (11 : Int32)), (.ref b1), (.ref b1)])) _
    refine st37 _ ?_
    show Steps p.tables e below (T37.setTop (mkF m 83 #[.val (.int p1), .unset, .unset, .unset, .unset, .unset] [(.ref b1)])) _
    refine XS.astoreN X37.here hx rfl (hb hby at_83) rfl rfl (l' := #[.val (.int p1), .val (.ref b1), .unset, .unset, .unset, .unset]) rfl ?_
    show Steps p.tables e below (T37.setTop (mkF m 84 #[.val (.int p1), .val (.ref b1), .unset, .unset, .unset, .unset] [])) _
    refine XS.iloadN X37.here hx rfl (hb hby at_84) rfl ?_
    show Steps p.tables e below (T37.setTop (mkF m 85 #[.val (.int p1), .val (.ref b1), .unset, .unset, .unset, .unset] [(.int p1)])) _
    refine X37.ldcInt hx hown (mvT hZ (wd28 hw)) (g := (mkF m 85 #[.val (.int p1), .val (.ref b1), .unset, .unset, .unset, .unset] [(.int p1)])) rfl (hb hby at_85) _ ?_
    show Steps p.tables e below (T37.setTop (mkF m 87 #[.val (.int p1), .val (.ref b1), .unset, .unset, .unset, .unset] [(.int (2147483647 : Int32)), (.int p1)])) _
    refine XS.iand X37.here hx rfl (hb hby at_87) rfl ?_
    show Steps p.tables e below (T37.setTop (mkF m 88 #[.val (.int p1), .val (.ref b1), .unset, .unset, .unset, .unset] [(.int (p1 &&& (2147483647 : Int32)))])) _
    refine XS.bipush X37.here hx rfl (hb hby at_88) ?_
    show Steps p.tables e below (T37.setTop (mkF m 90 #[.val (.int p1), .val (.ref b1), .unset, .unset, .unset, .unset] [(.int (12 : Int32)), (.int (p1 &&& (2147483647 : Int32)))])) _
    refine iremM X37 hx rfl (hb hby at_90) rfl (by decide) ?_
    show Steps p.tables e below (T37.setTop (mkF m 91 #[.val (.int p1), .val (.ref b1), .unset, .unset, .unset, .unset] [(.int ((p1 &&& (2147483647 : Int32)) % (12 : Int32)))])) _
    rw [pr25]
    show Steps p.tables e below (T37.setTop (mkF m 91 #[.val (.int p1), .val (.ref b1), .unset, .unset, .unset, .unset] [(.int (8 : Int32))])) _
    refine XS.istoreN X37.here hx rfl (hb hby at_91) rfl (l' := #[.val (.int p1), .val (.ref b1), .val (.int (8 : Int32)), .unset, .unset, .unset]) rfl ?_
    show Steps p.tables e below (T37.setTop (mkF m 92 #[.val (.int p1), .val (.ref b1), .val (.int (8 : Int32)), .unset, .unset, .unset] [])) _
    refine XS.aloadN X37.here hx rfl (hb hby at_92) rfl rfl ?_
    show Steps p.tables e below (T37.setTop (mkF m 93 #[.val (.int p1), .val (.ref b1), .val (.int (8 : Int32)), .unset, .unset, .unset] [(.ref b1)])) _
    refine XS.iloadN X37.here hx rfl (hb hby at_93) rfl ?_
    show Steps p.tables e below (T37.setTop (mkF m 94 #[.val (.int p1), .val (.ref b1), .val (.int (8 : Int32)), .unset, .unset, .unset] [(.int (8 : Int32)), (.ref b1)])) _
    refine X37.aaload hx (j := (8 : Int32)) (v := (.ref w_GAS_INDEXED_ENERGY)) (by rw [e37]; exact Ar38.1) (State.isArrayOf_alike hZ.alike Ar38.2.1) rfl Ar38.2.2 hin38 hat38 (g := (mkF m 94 #[.val (.int p1), .val (.ref b1), .val (.int (8 : Int32)), .unset, .unset, .unset] [(.int (8 : Int32)), (.ref b1)])) rfl rfl (hb hby at_94) _ ?_
    show Steps p.tables e below (T37.setTop (mkF m 95 #[.val (.int p1), .val (.ref b1), .val (.int (8 : Int32)), .unset, .unset, .unset] [(.ref w_GAS_INDEXED_ENERGY)])) _
    refine XS.astoreN X37.here hx rfl (hb hby at_95) rfl rfl (l' := #[.val (.int p1), .val (.ref b1), .val (.int (8 : Int32)), .val (.ref w_GAS_INDEXED_ENERGY), .unset, .unset]) rfl ?_
    show Steps p.tables e below (T37.setTop (mkF m 96 #[.val (.int p1), .val (.ref b1), .val (.int (8 : Int32)), .val (.ref w_GAS_INDEXED_ENERGY), .unset, .unset] [])) _
    refine XS.iloadN X37.here hx rfl (hb hby at_96) rfl ?_
    show Steps p.tables e below (T37.setTop (mkF m 97 #[.val (.int p1), .val (.ref b1), .val (.int (8 : Int32)), .val (.ref w_GAS_INDEXED_ENERGY), .unset, .unset] [(.int (8 : Int32))])) _
    refine XS.bipush X37.here hx rfl (hb hby at_97) ?_
    show Steps p.tables e below (T37.setTop (mkF m 99 #[.val (.int p1), .val (.ref b1), .val (.int (8 : Int32)), .val (.ref w_GAS_INDEXED_ENERGY), .unset, .unset] [(.int (7 : Int32)), (.int (8 : Int32))])) _
    refine XS.icmpNo X37.here hx rfl (hb hby at_99) rfl (feq (by decide : ¬ ((8 : Int32) = (7 : Int32)))).1 ?_
    show Steps p.tables e below (T37.setTop (mkF m 102 #[.val (.int p1), .val (.ref b1), .val (.int (8 : Int32)), .val (.ref w_GAS_INDEXED_ENERGY), .unset, .unset] [])) _
    refine XS.iloadN X37.here hx rfl (hb hby at_102) rfl ?_
    show Steps p.tables e below (T37.setTop (mkF m 103 #[.val (.int p1), .val (.ref b1), .val (.int (8 : Int32)), .val (.ref w_GAS_INDEXED_ENERGY), .unset, .unset] [(.int (8 : Int32))])) _
    refine XS.bipush X37.here hx rfl (hb hby at_103) ?_
    show Steps p.tables e below (T37.setTop (mkF m 105 #[.val (.int p1), .val (.ref b1), .val (.int (8 : Int32)), .val (.ref w_GAS_INDEXED_ENERGY), .unset, .unset] [(.int (8 : Int32)), (.int (8 : Int32))])) _
    refine XS.icmpYes X37.here hx rfl (pc0 := 105) (pc' := 114) rfl (hb hby at_105) rfl (teq (rfl : (8 : Int32) = (8 : Int32))).1 (by decide) (by decide) ?_
    show Steps p.tables e below (T37.setTop (mkF m 114 #[.val (.int p1), .val (.ref b1), .val (.int (8 : Int32)), .val (.ref w_GAS_INDEXED_ENERGY), .unset, .unset] [])) _
    refine XS.iconst X37.here hx rfl (hb hby at_114) ?_
    show Steps p.tables e below (T37.setTop (mkF m 115 #[.val (.int p1), .val (.ref b1), .val (.int (8 : Int32)), .val (.ref w_GAS_INDEXED_ENERGY), .unset, .unset] [(.int (1 : Int32))])) _
    refine XS.goto X37.here hx rfl (pc0 := 115) (pc' := 119) rfl (hb hby at_115) (by decide) (by decide) ?_
    show Steps p.tables e below (T37.setTop (mkF m 119 #[.val (.int p1), .val (.ref b1), .val (.int (8 : Int32)), .val (.ref w_GAS_INDEXED_ENERGY), .unset, .unset] [(.int (1 : Int32))])) _
    refine XS.istore X37.here hx rfl (hb hby at_119) rfl (l' := #[.val (.int p1), .val (.ref b1), .val (.int (8 : Int32)), .val (.ref w_GAS_INDEXED_ENERGY), .val (.int (1 : Int32)), .unset]) rfl ?_
    show Steps p.tables e below (T37.setTop (mkF m 121 #[.val (.int p1), .val (.ref b1), .val (.int (8 : Int32)), .val (.ref w_GAS_INDEXED_ENERGY), .val (.int (1 : Int32)), .unset] [])) _
    refine XS.aloadN X37.here hx rfl (hb hby at_121) rfl rfl ?_
    show Steps p.tables e below (T37.setTop (mkF m 122 #[.val (.int p1), .val (.ref b1), .val (.int (8 : Int32)), .val (.ref w_GAS_INDEXED_ENERGY), .val (.int (1 : Int32)), .unset] [(.ref w_GAS_INDEXED_ENERGY)])) _
    refine st39.trans ?_
    show Steps p.tables e below (T39.setTop (mkF m 125 #[.val (.int p1), .val (.ref b1), .val (.int (8 : Int32)), .val (.ref w_GAS_INDEXED_ENERGY), .val (.int (1 : Int32)), .unset] [(.int (1 : Int32))])) _
    refine XS.istore X39.here hx rfl (hb hby at_125) rfl (l' := #[.val (.int p1), .val (.ref b1), .val (.int (8 : Int32)), .val (.ref w_GAS_INDEXED_ENERGY), .val (.int (1 : Int32)), .val (.int (1 : Int32))]) rfl ?_
    show Steps p.tables e below (T39.setTop (mkF m 127 #[.val (.int p1), .val (.ref b1), .val (.int (8 : Int32)), .val (.ref w_GAS_INDEXED_ENERGY), .val (.int (1 : Int32)), .val (.int (1 : Int32))] [])) _
    refine XS.iload X39.here hx rfl (hb hby at_127) rfl ?_
    show Steps p.tables e below (T39.setTop (mkF m 129 #[.val (.int p1), .val (.ref b1), .val (.int (8 : Int32)), .val (.ref w_GAS_INDEXED_ENERGY), .val (.int (1 : Int32)), .val (.int (1 : Int32))] [(.int (1 : Int32))])) _
    refine XS.iload X39.here hx rfl (hb hby at_129) rfl ?_
    show Steps p.tables e below (T39.setTop (mkF m 131 #[.val (.int p1), .val (.ref b1), .val (.int (8 : Int32)), .val (.ref w_GAS_INDEXED_ENERGY), .val (.int (1 : Int32)), .val (.int (1 : Int32))] [(.int (1 : Int32)), (.int (1 : Int32))])) _
    refine XS.icmpYes X39.here hx rfl (pc0 := 131) (pc' := 136) rfl (hb hby at_131) rfl (teq (rfl : (1 : Int32) = (1 : Int32))).1 (by decide) (by decide) ?_
    show Steps p.tables e below (T39.setTop (mkF m 136 #[.val (.int p1), .val (.ref b1), .val (.int (8 : Int32)), .val (.ref w_GAS_INDEXED_ENERGY), .val (.int (1 : Int32)), .val (.int (1 : Int32))] [])) _
    refine XS.iload X39.here hx rfl (hb hby at_136) rfl ?_
    show Steps p.tables e below (T39.setTop (mkF m 138 #[.val (.int p1), .val (.ref b1), .val (.int (8 : Int32)), .val (.ref w_GAS_INDEXED_ENERGY), .val (.int (1 : Int32)), .val (.int (1 : Int32))] [(.int (1 : Int32))])) _
    refine XS.ifNo X39.here hx rfl (hb hby at_138) rfl ((if0 _ _).trans (feq (by decide : ¬ ((1 : Int32) = (0 : Int32)))).1) ?_
    show Steps p.tables e below (T39.setTop (mkF m 141 #[.val (.int p1), .val (.ref b1), .val (.int (8 : Int32)), .val (.ref w_GAS_INDEXED_ENERGY), .val (.int (1 : Int32)), .val (.int (1 : Int32))] [])) _
    refine XS.aloadN X39.here hx rfl (hb hby at_141) rfl rfl ?_
    show Steps p.tables e below (T39.setTop (mkF m 142 #[.val (.int p1), .val (.ref b1), .val (.int (8 : Int32)), .val (.ref w_GAS_INDEXED_ENERGY), .val (.int (1 : Int32)), .val (.int (1 : Int32))] [(.ref w_GAS_INDEXED_ENERGY)])) _
    refine st40.trans ?_
    show Steps p.tables e below (T40.setTop (mkF m 145 #[.val (.int p1), .val (.ref b1), .val (.int (8 : Int32)), .val (.ref w_GAS_INDEXED_ENERGY), .val (.int (1 : Int32)), .val (.int (1 : Int32))] [(.int (0 : Int32))])) _
    refine XS.ifNo X40.here hx rfl (hb hby at_145) rfl ((if0 _ _).trans (teq (rfl : (0 : Int32) = (0 : Int32))).2) ?_
    show Steps p.tables e below (T40.setTop (mkF m 148 #[.val (.int p1), .val (.ref b1), .val (.int (8 : Int32)), .val (.ref w_GAS_INDEXED_ENERGY), .val (.int (1 : Int32)), .val (.int (1 : Int32))] [])) _
    refine XS.aloadN X40.here hx rfl (hb hby at_148) rfl rfl ?_
    show Steps p.tables e below (T40.setTop (mkF m 149 #[.val (.int p1), .val (.ref b1), .val (.int (8 : Int32)), .val (.ref w_GAS_INDEXED_ENERGY), .val (.int (1 : Int32)), .val (.int (1 : Int32))] [(.ref w_GAS_INDEXED_ENERGY)])) _
    refine st41.trans ?_
    show Steps p.tables e below (T41.setTop (mkF m 152 #[.val (.int p1), .val (.ref b1), .val (.int (8 : Int32)), .val (.ref w_GAS_INDEXED_ENERGY), .val (.int (1 : Int32)), .val (.int (1 : Int32))] [(.int (0 : Int32))])) _
    refine XS.ifNo X41.here hx rfl (hb hby at_152) rfl ((if0 _ _).trans (teq (rfl : (0 : Int32) = (0 : Int32))).2) ?_
    show Steps p.tables e below (T41.setTop (mkF m 155 #[.val (.int p1), .val (.ref b1), .val (.int (8 : Int32)), .val (.ref w_GAS_INDEXED_ENERGY), .val (.int (1 : Int32)), .val (.int (1 : Int32))] [])) _
    refine XS.aloadN X41.here hx rfl (hb hby at_155) rfl rfl ?_
    show Steps p.tables e below (T41.setTop (mkF m 156 #[.val (.int p1), .val (.ref b1), .val (.int (8 : Int32)), .val (.ref w_GAS_INDEXED_ENERGY), .val (.int (1 : Int32)), .val (.int (1 : Int32))] [(.ref w_GAS_INDEXED_ENERGY)])) _
    refine st42.trans ?_
    show Steps p.tables e below (T42.setTop (mkF m 159 #[.val (.int p1), .val (.ref b1), .val (.int (8 : Int32)), .val (.ref w_GAS_INDEXED_ENERGY), .val (.int (1 : Int32)), .val (.int (1 : Int32))] [(.int (0 : Int32))])) _
    refine XS.ifYes X42.here hx rfl (pc0 := 159) (pc' := 164) rfl (hb hby at_159) rfl ((if0 _ _).trans (teq (rfl : (0 : Int32) = (0 : Int32))).1) (by decide) (by decide) ?_
    show Steps p.tables e below (T42.setTop (mkF m 164 #[.val (.int p1), .val (.ref b1), .val (.int (8 : Int32)), .val (.ref w_GAS_INDEXED_ENERGY), .val (.int (1 : Int32)), .val (.int (1 : Int32))] [])) _
    refine XS.iconst X42.here hx rfl (hb hby at_164) ?_
    show Steps p.tables e below (T42.setTop (mkF m 165 #[.val (.int p1), .val (.ref b1), .val (.int (8 : Int32)), .val (.ref w_GAS_INDEXED_ENERGY), .val (.int (1 : Int32)), .val (.int (1 : Int32))] [(.int (1 : Int32))])) _
    exact retN X42 hx (t := .boolean) Bd.returns (by simp) (hb hby at_165) hr
  · exact ⟨rfl, N42⟩
def Q_rm1_3 (Z : State) (w1 : Addr) (w2 : Addr) (w4 : Addr) (h0 : Heap) (n0 : Nat) (v : Option Value) (h : Heap) (L : List Loc) : Prop := v = some (.int (1 : Int32)) ∧ Fr n0 L ∧ h = h0
set_option maxRecDepth 65536 in
set_option maxHeartbeats 40000000 in
theorem rm1_3 (l : Launch) (Z : State) (a0 : Array Value) (hw : ∀ d ∈ tables_1, d.before a0 Z = true) (ws : List Jvm.Cond) (w1 : Addr) (w2 : Addr) (w4 : Addr) (h0 : Heap) (n0 : Nat) (OL0 : Old Z n0 h0) (pr1 : Sta Z Z.heap "com/example/tarcal/tarcal/schedules/Basis" "HIGHEST_HOUR_ENERGY" "Lcom/example/tarcal/tarcal/schedules/Basis;" (.ref w2)) (pr2 : w1 ≠ w2) (pr3 : Sta Z Z.heap "com/example/tarcal/tarcal/schedules/Basis" "GAS_INDEXED_ENERGY" "Lcom/example/tarcal/tarcal/schedules/Basis;" (.ref w4)) (pr4 : w1 ≠ w4) (pr5 : Sta Z Z.heap "com/example/tarcal/tarcal/schedules/Basis" "POOL_PRICED_ENERGY" "Lcom/example/tarcal/tarcal/schedules/Basis;" (.ref w1)) :
    MetFree l (⟨"com/example/tarcal/tarcal/schedules/Basis", "perPeriod", "()Z"⟩ : MethodName) (head1 (Jvm.Cond.code (⟨"com/example/tarcal/tarcal/schedules/Basis", "perPeriod", "()Z"⟩ : MethodName) prog_21_method_9_code 1 (some .boolean) :: ws) ({ frames := 0, cells := 0, slots := 0, locals := 0 } : Room)) (fun a U => a = #[(.ref w1)] ∧ Z.Warmed39 U.vm ∧ U.heap = h0) (fun _ _ _ _ _ => True) (fun _ U o U' => ∃ v L, o = .returned v ∧ Q_rm1_3 Z w1 w2 w4 h0 n0 v U'.heap L ∧ FrameEnd U o U' L ({ frames := 0, cells := 0, slots := 0, locals := 0 } : Room).cells ({ frames := 0, cells := 0, slots := 0, locals := 0 } : Room).slots) := by
  refine MetFree.of_bodySF (plainFor_of_name pn_0) hisR ?_
  intro p e s m args below meth c s₁ Bd hml0 hP hK
  obtain ⟨rfl, hZ, hh⟩ := hP
  have hx := Bd.exec
  have hby := Bd.bytes
  have hml : c.maxLocals = 1 := hml0
  have hown : s.vm.findClass "com/example/tarcal/tarcal/schedules/Basis" = some m.cls := findClass_of_methodNamed Bd.named
  have hnm := (name_of_methodNamed Bd.named Bd.method).1
  have X0 : Stand p l e ({ frames := 0, cells := 0, slots := 0, locals := 0 } : Room) s m #[(.ref w1)] below meth c s₁ [] 0 0 := Stand.of_body Bd
  have e0 : s₁.heap = h0 := by rw [← hh, Bd.state]; rfl
  have N0 := Fr.nil n0
  have pre0 : ∀ t, Steps p.tables e below (s₁.setTop (mkF m 0 #[.val (.ref w1)] [])) t → Steps p.tables e below (s₁.setTop (entryFrame m #[(.ref w1)] 1)) t := fun t k => castTop (ef_1_0 m w1) k
  obtain ⟨T3, X3, e3, st3⟩ := getS2 X0 hx hZ hown (host := "") (Or.inl (wd34 hw)) Via.refl e0 (pr1.ext OL0.2) (g := (mkF m 1 #[.val (.ref w1)] [(.ref w1)])) rfl (hb hby d1_1)
  obtain ⟨T5, X5, e5, st5⟩ := getS2 X3 hx hZ hown (host := "") (Or.inl (wd35 hw)) Via.refl e3 (pr3.ext OL0.2) (g := (mkF m 8 #[.val (.ref w1)] [(.ref w1)])) rfl (hb hby d1_8)
  obtain ⟨T6, X6, e6, st6⟩ := getS2 X5 hx hZ hown (host := "") (Or.inl (wd36 hw)) Via.refl e5 (pr5.ext OL0.2) (g := (mkF m 15 #[.val (.ref w1)] [(.ref w1)])) rfl (hb hby d1_15)
  obtain ⟨fs, hr, hrun, hended, hW, hsame⟩ := X6.leave (v := some (.int (1 : Int32))) (fun h => by rw [Bd.returns] at h; cases h)
  refine ⟨_, _, pre0 _ ?_, hrun, hended, _, _, rfl, ?_, ⟨_, rfl⟩, hW, hsame.mono (by decide) (by decide)⟩
  · show Steps p.tables e below (s₁.setTop (mkF m 0 #[.val (.ref w1)] [])) _
    refine XS.aloadN X0.here hx rfl (hb hby d1_0) rfl rfl ?_
    show Steps p.tables e below (s₁.setTop (mkF m 1 #[.val (.ref w1)] [(.ref w1)])) _
    refine st3 _ ?_
    show Steps p.tables e below (T3.setTop (mkF m 4 #[.val (.ref w1)] [(.ref w2), (.ref w1)])) _
    refine Jvm.RoadKit.acmp (g := (mkF m 4 #[.val (.ref w1)] [(.ref w2), (.ref w1)])) X3 hx rfl rfl rfl (pc0 := 4) (pc' := 7) (same := false) rfl (hb hby d1_4) rfl (decide_eq_false fun q => pr2 (Value.ref.inj q)) (by decide) (by decide) ?_
    show Steps p.tables e below (T3.setTop (mkF m 7 #[.val (.ref w1)] [])) _
    refine XS.aloadN X3.here hx rfl (hb hby d1_7) rfl rfl ?_
    show Steps p.tables e below (T3.setTop (mkF m 8 #[.val (.ref w1)] [(.ref w1)])) _
    refine st5 _ ?_
    show Steps p.tables e below (T5.setTop (mkF m 11 #[.val (.ref w1)] [(.ref w4), (.ref w1)])) _
    refine Jvm.RoadKit.acmp (g := (mkF m 11 #[.val (.ref w1)] [(.ref w4), (.ref w1)])) X5 hx rfl rfl rfl (pc0 := 11) (pc' := 14) (same := false) rfl (hb hby d1_11) rfl (decide_eq_false fun q => pr4 (Value.ref.inj q)) (by decide) (by decide) ?_
    show Steps p.tables e below (T5.setTop (mkF m 14 #[.val (.ref w1)] [])) _
    refine XS.aloadN X5.here hx rfl (hb hby d1_14) rfl rfl ?_
    show Steps p.tables e below (T5.setTop (mkF m 15 #[.val (.ref w1)] [(.ref w1)])) _
    refine st6 _ ?_
    show Steps p.tables e below (T6.setTop (mkF m 18 #[.val (.ref w1)] [(.ref w1), (.ref w1)])) _
    refine Jvm.RoadKit.acmp (g := (mkF m 18 #[.val (.ref w1)] [(.ref w1), (.ref w1)])) X6 hx rfl rfl rfl (pc0 := 18) (pc' := 21) (same := true) rfl (hb hby d1_18) rfl (decide_eq_true rfl) (by decide) (by decide) ?_
    show Steps p.tables e below (T6.setTop (mkF m 21 #[.val (.ref w1)] [])) _
    refine XS.iconst X6.here hx rfl (hb hby d1_21) ?_
    show Steps p.tables e below (T6.setTop (mkF m 22 #[.val (.ref w1)] [(.int (1 : Int32))])) _
    refine XS.goto X6.here hx rfl (pc0 := 22) (pc' := 26) rfl (hb hby d1_22) (by decide) (by decide) ?_
    show Steps p.tables e below (T6.setTop (mkF m 26 #[.val (.ref w1)] [(.int (1 : Int32))])) _
    exact retN X6 hx (t := .boolean) Bd.returns (by simp) (hb hby d1_26) hr
  · show Q_rm1_3 Z w1 w2 w4 h0 n0 _ T6.heap _
    rw [e6]
    exact ⟨rfl, N0, rfl⟩
set_option maxRecDepth 65536 in
set_option maxHeartbeats 40000000 in
theorem rm0_9 (l : Launch) (Z : State) (a0 : Array Value) (hw : ∀ d ∈ tables_1, d.before a0 Z = true) (ws : List Jvm.Cond) (p1 : Int32) (w_DAYS : Addr) (w_ENERGY : Addr) (w_ON_PEAK_ENERGY : Addr) (w_OFF_PEAK_ENERGY : Addr) (w_BILLING_DEMAND_DAYS : Addr) (w_METERED_DEMAND_DAYS : Addr) (w_FIXTURE_DAYS : Addr) (w_HIGHEST_HOUR_ENERGY : Addr) (w_GAS_INDEXED_ENERGY : Addr) (w_POOL_PRICED_ENERGY : Addr) (w_ISO_COSTS : Addr) (w_DISTRIBUTION_ACCESS_CHARGES : Addr) (h0 : Heap) (n0 : Nat) (OL0 : Old Z n0 h0) (pr1 : Sta Z Z.heap "com/example/tarcal/tarcal/schedules/Basis" "DAYS" "Lcom/example/tarcal/tarcal/schedules/Basis;" (.ref w_DAYS)) (pr2 : Exa Z Z.heap w_DAYS "com/example/tarcal/tarcal/schedules/Basis") (pr3 : Sta Z Z.heap "com/example/tarcal/tarcal/schedules/Basis" "ENERGY" "Lcom/example/tarcal/tarcal/schedules/Basis;" (.ref w_ENERGY)) (pr4 : Exa Z Z.heap w_ENERGY "com/example/tarcal/tarcal/schedules/Basis") (pr5 : Sta Z Z.heap "com/example/tarcal/tarcal/schedules/Basis" "ON_PEAK_ENERGY" "Lcom/example/tarcal/tarcal/schedules/Basis;" (.ref w_ON_PEAK_ENERGY)) (pr6 : Exa Z Z.heap w_ON_PEAK_ENERGY "com/example/tarcal/tarcal/schedules/Basis") (pr7 : Sta Z Z.heap "com/example/tarcal/tarcal/schedules/Basis" "OFF_PEAK_ENERGY" "Lcom/example/tarcal/tarcal/schedules/Basis;" (.ref w_OFF_PEAK_ENERGY)) (pr8 : Exa Z Z.heap w_OFF_PEAK_ENERGY "com/example/tarcal/tarcal/schedules/Basis") (pr9 : Sta Z Z.heap "com/example/tarcal/tarcal/schedules/Basis" "BILLING_DEMAND_DAYS" "Lcom/example/tarcal/tarcal/schedules/Basis;" (.ref w_BILLING_DEMAND_DAYS)) (pr10 : Exa Z Z.heap w_BILLING_DEMAND_DAYS "com/example/tarcal/tarcal/schedules/Basis") (pr11 : Sta Z Z.heap "com/example/tarcal/tarcal/schedules/Basis" "METERED_DEMAND_DAYS" "Lcom/example/tarcal/tarcal/schedules/Basis;" (.ref w_METERED_DEMAND_DAYS)) (pr12 : Exa Z Z.heap w_METERED_DEMAND_DAYS "com/example/tarcal/tarcal/schedules/Basis") (pr13 : Sta Z Z.heap "com/example/tarcal/tarcal/schedules/Basis" "FIXTURE_DAYS" "Lcom/example/tarcal/tarcal/schedules/Basis;" (.ref w_FIXTURE_DAYS)) (pr14 : Exa Z Z.heap w_FIXTURE_DAYS "com/example/tarcal/tarcal/schedules/Basis") (pr15 : Sta Z Z.heap "com/example/tarcal/tarcal/schedules/Basis" "HIGHEST_HOUR_ENERGY" "Lcom/example/tarcal/tarcal/schedules/Basis;" (.ref w_HIGHEST_HOUR_ENERGY)) (pr16 : Exa Z Z.heap w_HIGHEST_HOUR_ENERGY "com/example/tarcal/tarcal/schedules/Basis") (pr17 : Sta Z Z.heap "com/example/tarcal/tarcal/schedules/Basis" "GAS_INDEXED_ENERGY" "Lcom/example/tarcal/tarcal/schedules/Basis;" (.ref w_GAS_INDEXED_ENERGY)) (pr18 : Exa Z Z.heap w_GAS_INDEXED_ENERGY "com/example/tarcal/tarcal/schedules/Basis") (pr19 : Sta Z Z.heap "com/example/tarcal/tarcal/schedules/Basis" "POOL_PRICED_ENERGY" "Lcom/example/tarcal/tarcal/schedules/Basis;" (.ref w_POOL_PRICED_ENERGY)) (pr20 : Exa Z Z.heap w_POOL_PRICED_ENERGY "com/example/tarcal/tarcal/schedules/Basis") (pr21 : Sta Z Z.heap "com/example/tarcal/tarcal/schedules/Basis" "ISO_COSTS" "Lcom/example/tarcal/tarcal/schedules/Basis;" (.ref w_ISO_COSTS)) (pr22 : Exa Z Z.heap w_ISO_COSTS "com/example/tarcal/tarcal/schedules/Basis") (pr23 : Sta Z Z.heap "com/example/tarcal/tarcal/schedules/Basis" "DISTRIBUTION_ACCESS_CHARGES" "Lcom/example/tarcal/tarcal/schedules/Basis;" (.ref w_DISTRIBUTION_ACCESS_CHARGES)) (pr24 : Exa Z Z.heap w_DISTRIBUTION_ACCESS_CHARGES "com/example/tarcal/tarcal/schedules/Basis") (pr25 : ((p1 &&& (2147483647 : Int32)) % (12 : Int32)) = (9 : Int32)) (pr26 : w_POOL_PRICED_ENERGY ≠ w_HIGHEST_HOUR_ENERGY) (pr27 : w_POOL_PRICED_ENERGY ≠ w_GAS_INDEXED_ENERGY) (pr28 : Fld Z Z.heap w_POOL_PRICED_ENERGY "com/example/tarcal/tarcal/schedules/Basis" "onDemand" "Z" (.int (0 : Int32))) (pr29 : Fld Z Z.heap w_POOL_PRICED_ENERGY "com/example/tarcal/tarcal/schedules/Basis" "byTimeOfUse" "Z" (.int (0 : Int32))) (pr30 : w_POOL_PRICED_ENERGY ≠ w_ISO_COSTS) :
    MetFree l x (head1 (Jvm.Cond.code x code maxLocals ret :: ws) room_1) (fun a U => a = #[(.int p1)] ∧ Z.Warmed39 U.vm ∧ U.heap = h0) (fun _ _ _ _ _ => True) (fun _ U o U' => ∃ v L, o = .returned v ∧ Q0 n0 v L ∧ FrameEnd U o U' L 16 128) := by
  refine MetFree.of_bodySF (plainFor_of_name pn_1) hisR ?_
  intro p e s m args below meth c s₁ Bd hml0 hP hK
  obtain ⟨rfl, hZ, hh⟩ := hP
  have hx := Bd.exec
  have hby := Bd.bytes
  have hml : c.maxLocals = 6 := hml0
  have hown : s.vm.findClass "com/example/tarcal/tarcal/schedules/BasisPerPeriodPinLaw" = some m.cls := findClass_of_methodNamed Bd.named
  have hnm := (name_of_methodNamed Bd.named Bd.method).1
  have X0 : Stand p l e room_1 s m #[(.int p1)] below meth c s₁ [] 0 0 := Stand.of_body Bd
  have e0 : s₁.heap = h0 := by rw [← hh, Bd.state]; rfl
  have N0 := Fr.nil n0
  have pre0 : ∀ t, Steps p.tables e below (s₁.setTop (mkF m 0 #[.val (.int p1), .unset, .unset, .unset, .unset, .unset] [])) t → Steps p.tables e below (s₁.setTop (entryFrame m #[(.int p1)] maxLocals)) t := fun t k => castTop (ef_0_1 m p1) k
  obtain ⟨T1, h1, k1, X1, e1, E1, A1, O1, st1⟩ := newR X0 hx hZ hown (wd0 hw) (wd1 hw) e0 (g := (mkF m 2 #[.val (.int p1), .unset, .unset, .unset, .unset, .unset] [(.int (12 : Int32))])) rfl (hb hby at_2) rfl (by decide) (cap := 12) (by decide) (by decide) (by decide) (by decide)
  obtain ⟨b1, g1⟩ : ∃ z, z = h0.size := ⟨_, rfl⟩
  rw [← g1] at A1 st1
  have V1 : Arv Z h1 b1 k1 (.object "com/example/tarcal/tarcal/schedules/Basis") (12 : Int32) [.null, .null, .null, .null, .null, .null, .null, .null, .null, .null, .null, .null] .null := (Arv.new A1 (by decide)).pad (pad_rep [] .null 12)
  have g_b1 : n0 ≤ b1 := (Nat.le_trans (Nat.le_trans (Nat.le_of_eq OL0.1.symm) OL0.2.1) (Nat.le_of_eq g1.symm))
  have sz_b1 : h0.size ≤ b1 := (Nat.le_trans (Keep.refl h0 []).1 (Nat.le_of_eq g1.symm))
  have KK1 : Keep h0 h1 [] := (Keep.refl h0 []).ext E1
  have OL1 := OL0.ext E1
  obtain ⟨T2, X2, e2, st2⟩ := getS2 X1 hx hZ hown (host := "") (Or.inl (wd2 hw)) Via.refl e1 (pr1.ext OL1.2) (g := (mkF m 7 #[.val (.int p1), .unset, .unset, .unset, .unset, .unset] [(.int (0 : Int32)), (.ref b1), (.ref b1)])) rfl (hb hby at_7)
  obtain ⟨cl3, Ar3, q3, S3, M3, Hs3, G3⟩ := V1
  have hin3 : ¬ ((0 : Int32) < 0 ∨ cl3.slots.size ≤ ((0 : Int32)).toNatClampNeg) := inb_of S3 ⟨by decide, by decide⟩
  obtain ⟨T4, h4, X4, e4, W4, st4⟩ := stR X2 hx hZ e2 Ar3 (j := (0 : Int32)) hin3 rfl (Sto.ofV Ar3 q3 O1 (Ins.self (pr2.ext OL1.2))) (g := (mkF m 10 #[.val (.int p1), .unset, .unset, .unset, .unset, .unset] [(.ref w_DAYS), (.int (0 : Int32)), (.ref b1), (.ref b1)])) rfl rfl (hb hby at_10)
  have V4 : Arv Z h4 b1 k1 (.object "com/example/tarcal/tarcal/schedules/Basis") (12 : Int32) [(.ref w_DAYS), .null, .null, .null, .null, .null, .null, .null, .null, .null, .null, .null] .null := Arv.set Ar3 q3 S3 M3 Hs3 G3 rfl W4 0 rfl (Nat.le_of_ble_eq_true rfl)
  have KK4 : Keep h0 h4 [] := KK1.wr W4 (Or.inr sz_b1)
  have OL4 := OL1.wr W4 g_b1
  have N4 := Fr.snoc X4 N0 g_b1
  obtain ⟨T5, X5, e5, st5⟩ := getS2 X4 hx hZ hown (host := "") (Or.inl (wd6 hw)) Via.refl e4 (pr3.ext OL4.2) (g := (mkF m 13 #[.val (.int p1), .unset, .unset, .unset, .unset, .unset] [(.int (1 : Int32)), (.ref b1), (.ref b1)])) rfl (hb hby at_13)
  obtain ⟨cl6, Ar6, q6, S6, M6, Hs6, G6⟩ := V4
  have hin6 : ¬ ((1 : Int32) < 0 ∨ cl6.slots.size ≤ ((1 : Int32)).toNatClampNeg) := inb_of S6 ⟨by decide, by decide⟩
  obtain ⟨T7, h7, X7, e7, W7, st7⟩ := stR X5 hx hZ e5 Ar6 (j := (1 : Int32)) hin6 rfl (Sto.ofV Ar6 q6 O1 (Ins.self (pr4.ext OL4.2))) (g := (mkF m 16 #[.val (.int p1), .unset, .unset, .unset, .unset, .unset] [(.ref w_ENERGY), (.int (1 : Int32)), (.ref b1), (.ref b1)])) rfl rfl (hb hby at_16)
  have V7 : Arv Z h7 b1 k1 (.object "com/example/tarcal/tarcal/schedules/Basis") (12 : Int32) [(.ref w_DAYS), (.ref w_ENERGY), .null, .null, .null, .null, .null, .null, .null, .null, .null, .null] .null := Arv.set Ar6 q6 S6 M6 Hs6 G6 rfl W7 1 rfl (Nat.le_of_ble_eq_true rfl)
  have KK7 : Keep h0 h7 [] := KK4.wr W7 (Or.inr sz_b1)
  have OL7 := OL4.wr W7 g_b1
  have N7 := Fr.snoc X7 N4 g_b1
  obtain ⟨T8, X8, e8, st8⟩ := getS2 X7 hx hZ hown (host := "") (Or.inl (wd8 hw)) Via.refl e7 (pr5.ext OL7.2) (g := (mkF m 19 #[.val (.int p1), .unset, .unset, .unset, .unset, .unset] [(.int (2 : Int32)), (.ref b1), (.ref b1)])) rfl (hb hby at_19)
  obtain ⟨cl9, Ar9, q9, S9, M9, Hs9, G9⟩ := V7
  have hin9 : ¬ ((2 : Int32) < 0 ∨ cl9.slots.size ≤ ((2 : Int32)).toNatClampNeg) := inb_of S9 ⟨by decide, by decide⟩
  obtain ⟨T10, h10, X10, e10, W10, st10⟩ := stR X8 hx hZ e8 Ar9 (j := (2 : Int32)) hin9 rfl (Sto.ofV Ar9 q9 O1 (Ins.self (pr6.ext OL7.2))) (g := (mkF m 22 #[.val (.int p1), .unset, .unset, .unset, .unset, .unset] [(.ref w_ON_PEAK_ENERGY), (.int (2 : Int32)), (.ref b1), (.ref b1)])) rfl rfl (hb hby at_22)
  have V10 : Arv Z h10 b1 k1 (.object "com/example/tarcal/tarcal/schedules/Basis") (12 : Int32) [(.ref w_DAYS), (.ref w_ENERGY), (.ref w_ON_PEAK_ENERGY), .null, .null, .null, .null, .null, .null, .null, .null, .null] .null := Arv.set Ar9 q9 S9 M9 Hs9 G9 rfl W10 2 rfl (Nat.le_of_ble_eq_true rfl)
  have KK10 : Keep h0 h10 [] := KK7.wr W10 (Or.inr sz_b1)
  have OL10 := OL7.wr W10 g_b1
  have N10 := Fr.snoc X10 N7 g_b1
  obtain ⟨T11, X11, e11, st11⟩ := getS2 X10 hx hZ hown (host := "") (Or.inl (wd10 hw)) Via.refl e10 (pr7.ext OL10.2) (g := (mkF m 25 #[.val (.int p1), .unset, .unset, .unset, .unset, .unset] [(.int (3 : Int32)), (.ref b1), (.ref b1)])) rfl (hb hby at_25)
  obtain ⟨cl12, Ar12, q12, S12, M12, Hs12, G12⟩ := V10
  have hin12 : ¬ ((3 : Int32) < 0 ∨ cl12.slots.size ≤ ((3 : Int32)).toNatClampNeg) := inb_of S12 ⟨by decide, by decide⟩
  obtain ⟨T13, h13, X13, e13, W13, st13⟩ := stR X11 hx hZ e11 Ar12 (j := (3 : Int32)) hin12 rfl (Sto.ofV Ar12 q12 O1 (Ins.self (pr8.ext OL10.2))) (g := (mkF m 28 #[.val (.int p1), .unset, .unset, .unset, .unset, .unset] [(.ref w_OFF_PEAK_ENERGY), (.int (3 : Int32)), (.ref b1), (.ref b1)])) rfl rfl (hb hby at_28)
  have V13 : Arv Z h13 b1 k1 (.object "com/example/tarcal/tarcal/schedules/Basis") (12 : Int32) [(.ref w_DAYS), (.ref w_ENERGY), (.ref w_ON_PEAK_ENERGY), (.ref w_OFF_PEAK_ENERGY), .null, .null, .null, .null, .null, .null, .null, .null] .null := Arv.set Ar12 q12 S12 M12 Hs12 G12 rfl W13 3 rfl (Nat.le_of_ble_eq_true rfl)
  have KK13 : Keep h0 h13 [] := KK10.wr W13 (Or.inr sz_b1)
  have OL13 := OL10.wr W13 g_b1
  have N13 := Fr.snoc X13 N10 g_b1
  obtain ⟨T14, X14, e14, st14⟩ := getS2 X13 hx hZ hown (host := "") (Or.inl (wd12 hw)) Via.refl e13 (pr9.ext OL13.2) (g := (mkF m 31 #[.val (.int p1), .unset, .unset, .unset, .unset, .unset] [(.int (4 : Int32)), (.ref b1), (.ref b1)])) rfl (hb hby at_31)
  obtain ⟨cl15, Ar15, q15, S15, M15, Hs15, G15⟩ := V13
  have hin15 : ¬ ((4 : Int32) < 0 ∨ cl15.slots.size ≤ ((4 : Int32)).toNatClampNeg) := inb_of S15 ⟨by decide, by decide⟩
  obtain ⟨T16, h16, X16, e16, W16, st16⟩ := stR X14 hx hZ e14 Ar15 (j := (4 : Int32)) hin15 rfl (Sto.ofV Ar15 q15 O1 (Ins.self (pr10.ext OL13.2))) (g := (mkF m 34 #[.val (.int p1), .unset, .unset, .unset, .unset, .unset] [(.ref w_BILLING_DEMAND_DAYS), (.int (4 : Int32)), (.ref b1), (.ref b1)])) rfl rfl (hb hby at_34)
  have V16 : Arv Z h16 b1 k1 (.object "com/example/tarcal/tarcal/schedules/Basis") (12 : Int32) [(.ref w_DAYS), (.ref w_ENERGY), (.ref w_ON_PEAK_ENERGY), (.ref w_OFF_PEAK_ENERGY), (.ref w_BILLING_DEMAND_DAYS), .null, .null, .null, .null, .null, .null, .null] .null := Arv.set Ar15 q15 S15 M15 Hs15 G15 rfl W16 4 rfl (Nat.le_of_ble_eq_true rfl)
  have KK16 : Keep h0 h16 [] := KK13.wr W16 (Or.inr sz_b1)
  have OL16 := OL13.wr W16 g_b1
  have N16 := Fr.snoc X16 N13 g_b1
  obtain ⟨T17, X17, e17, st17⟩ := getS2 X16 hx hZ hown (host := "") (Or.inl (wd14 hw)) Via.refl e16 (pr11.ext OL16.2) (g := (mkF m 37 #[.val (.int p1), .unset, .unset, .unset, .unset, .unset] [(.int (5 : Int32)), (.ref b1), (.ref b1)])) rfl (hb hby at_37)
  obtain ⟨cl18, Ar18, q18, S18, M18, Hs18, G18⟩ := V16
  have hin18 : ¬ ((5 : Int32) < 0 ∨ cl18.slots.size ≤ ((5 : Int32)).toNatClampNeg) := inb_of S18 ⟨by decide, by decide⟩
  obtain ⟨T19, h19, X19, e19, W19, st19⟩ := stR X17 hx hZ e17 Ar18 (j := (5 : Int32)) hin18 rfl (Sto.ofV Ar18 q18 O1 (Ins.self (pr12.ext OL16.2))) (g := (mkF m 40 #[.val (.int p1), .unset, .unset, .unset, .unset, .unset] [(.ref w_METERED_DEMAND_DAYS), (.int (5 : Int32)), (.ref b1), (.ref b1)])) rfl rfl (hb hby at_40)
  have V19 : Arv Z h19 b1 k1 (.object "com/example/tarcal/tarcal/schedules/Basis") (12 : Int32) [(.ref w_DAYS), (.ref w_ENERGY), (.ref w_ON_PEAK_ENERGY), (.ref w_OFF_PEAK_ENERGY), (.ref w_BILLING_DEMAND_DAYS), (.ref w_METERED_DEMAND_DAYS), .null, .null, .null, .null, .null, .null] .null := Arv.set Ar18 q18 S18 M18 Hs18 G18 rfl W19 5 rfl (Nat.le_of_ble_eq_true rfl)
  have KK19 : Keep h0 h19 [] := KK16.wr W19 (Or.inr sz_b1)
  have OL19 := OL16.wr W19 g_b1
  have N19 := Fr.snoc X19 N16 g_b1
  obtain ⟨T20, X20, e20, st20⟩ := getS2 X19 hx hZ hown (host := "") (Or.inl (wd16 hw)) Via.refl e19 (pr13.ext OL19.2) (g := (mkF m 44 #[.val (.int p1), .unset, .unset, .unset, .unset, .unset] [(.int (6 : Int32)), (.ref b1), (.ref b1)])) rfl (hb hby at_44)
  obtain ⟨cl21, Ar21, q21, S21, M21, Hs21, G21⟩ := V19
  have hin21 : ¬ ((6 : Int32) < 0 ∨ cl21.slots.size ≤ ((6 : Int32)).toNatClampNeg) := inb_of S21 ⟨by decide, by decide⟩
  obtain ⟨T22, h22, X22, e22, W22, st22⟩ := stR X20 hx hZ e20 Ar21 (j := (6 : Int32)) hin21 rfl (Sto.ofV Ar21 q21 O1 (Ins.self (pr14.ext OL19.2))) (g := (mkF m 47 #[.val (.int p1), .unset, .unset, .unset, .unset, .unset] [(.ref w_FIXTURE_DAYS), (.int (6 : Int32)), (.ref b1), (.ref b1)])) rfl rfl (hb hby at_47)
  have V22 : Arv Z h22 b1 k1 (.object "com/example/tarcal/tarcal/schedules/Basis") (12 : Int32) [(.ref w_DAYS), (.ref w_ENERGY), (.ref w_ON_PEAK_ENERGY), (.ref w_OFF_PEAK_ENERGY), (.ref w_BILLING_DEMAND_DAYS), (.ref w_METERED_DEMAND_DAYS), (.ref w_FIXTURE_DAYS), .null, .null, .null, .null, .null] .null := Arv.set Ar21 q21 S21 M21 Hs21 G21 rfl W22 6 rfl (Nat.le_of_ble_eq_true rfl)
  have KK22 : Keep h0 h22 [] := KK19.wr W22 (Or.inr sz_b1)
  have OL22 := OL19.wr W22 g_b1
  have N22 := Fr.snoc X22 N19 g_b1
  obtain ⟨T23, X23, e23, st23⟩ := getS2 X22 hx hZ hown (host := "") (Or.inl (wd18 hw)) Via.refl e22 (pr15.ext OL22.2) (g := (mkF m 51 #[.val (.int p1), .unset, .unset, .unset, .unset, .unset] [(.int (7 : Int32)), (.ref b1), (.ref b1)])) rfl (hb hby at_51)
  obtain ⟨cl24, Ar24, q24, S24, M24, Hs24, G24⟩ := V22
  have hin24 : ¬ ((7 : Int32) < 0 ∨ cl24.slots.size ≤ ((7 : Int32)).toNatClampNeg) := inb_of S24 ⟨by decide, by decide⟩
  obtain ⟨T25, h25, X25, e25, W25, st25⟩ := stR X23 hx hZ e23 Ar24 (j := (7 : Int32)) hin24 rfl (Sto.ofV Ar24 q24 O1 (Ins.self (pr16.ext OL22.2))) (g := (mkF m 54 #[.val (.int p1), .unset, .unset, .unset, .unset, .unset] [(.ref w_HIGHEST_HOUR_ENERGY), (.int (7 : Int32)), (.ref b1), (.ref b1)])) rfl rfl (hb hby at_54)
  have V25 : Arv Z h25 b1 k1 (.object "com/example/tarcal/tarcal/schedules/Basis") (12 : Int32) [(.ref w_DAYS), (.ref w_ENERGY), (.ref w_ON_PEAK_ENERGY), (.ref w_OFF_PEAK_ENERGY), (.ref w_BILLING_DEMAND_DAYS), (.ref w_METERED_DEMAND_DAYS), (.ref w_FIXTURE_DAYS), (.ref w_HIGHEST_HOUR_ENERGY), .null, .null, .null, .null] .null := Arv.set Ar24 q24 S24 M24 Hs24 G24 rfl W25 7 rfl (Nat.le_of_ble_eq_true rfl)
  have KK25 : Keep h0 h25 [] := KK22.wr W25 (Or.inr sz_b1)
  have OL25 := OL22.wr W25 g_b1
  have N25 := Fr.snoc X25 N22 g_b1
  obtain ⟨T26, X26, e26, st26⟩ := getS2 X25 hx hZ hown (host := "") (Or.inl (wd20 hw)) Via.refl e25 (pr17.ext OL25.2) (g := (mkF m 58 #[.val (.int p1), .unset, .unset, .unset, .unset, .unset] [(.int (8 : Int32)), (.ref b1), (.ref b1)])) rfl (hb hby at_58)
  obtain ⟨cl27, Ar27, q27, S27, M27, Hs27, G27⟩ := V25
  have hin27 : ¬ ((8 : Int32) < 0 ∨ cl27.slots.size ≤ ((8 : Int32)).toNatClampNeg) := inb_of S27 ⟨by decide, by decide⟩
  obtain ⟨T28, h28, X28, e28, W28, st28⟩ := stR X26 hx hZ e26 Ar27 (j := (8 : Int32)) hin27 rfl (Sto.ofV Ar27 q27 O1 (Ins.self (pr18.ext OL25.2))) (g := (mkF m 61 #[.val (.int p1), .unset, .unset, .unset, .unset, .unset] [(.ref w_GAS_INDEXED_ENERGY), (.int (8 : Int32)), (.ref b1), (.ref b1)])) rfl rfl (hb hby at_61)
  have V28 : Arv Z h28 b1 k1 (.object "com/example/tarcal/tarcal/schedules/Basis") (12 : Int32) [(.ref w_DAYS), (.ref w_ENERGY), (.ref w_ON_PEAK_ENERGY), (.ref w_OFF_PEAK_ENERGY), (.ref w_BILLING_DEMAND_DAYS), (.ref w_METERED_DEMAND_DAYS), (.ref w_FIXTURE_DAYS), (.ref w_HIGHEST_HOUR_ENERGY), (.ref w_GAS_INDEXED_ENERGY), .null, .null, .null] .null := Arv.set Ar27 q27 S27 M27 Hs27 G27 rfl W28 8 rfl (Nat.le_of_ble_eq_true rfl)
  have KK28 : Keep h0 h28 [] := KK25.wr W28 (Or.inr sz_b1)
  have OL28 := OL25.wr W28 g_b1
  have N28 := Fr.snoc X28 N25 g_b1
  obtain ⟨T29, X29, e29, st29⟩ := getS2 X28 hx hZ hown (host := "") (Or.inl (wd22 hw)) Via.refl e28 (pr19.ext OL28.2) (g := (mkF m 65 #[.val (.int p1), .unset, .unset, .unset, .unset, .unset] [(.int (9 : Int32)), (.ref b1), (.ref b1)])) rfl (hb hby at_65)
  obtain ⟨cl30, Ar30, q30, S30, M30, Hs30, G30⟩ := V28
  have hin30 : ¬ ((9 : Int32) < 0 ∨ cl30.slots.size ≤ ((9 : Int32)).toNatClampNeg) := inb_of S30 ⟨by decide, by decide⟩
  obtain ⟨T31, h31, X31, e31, W31, st31⟩ := stR X29 hx hZ e29 Ar30 (j := (9 : Int32)) hin30 rfl (Sto.ofV Ar30 q30 O1 (Ins.self (pr20.ext OL28.2))) (g := (mkF m 68 #[.val (.int p1), .unset, .unset, .unset, .unset, .unset] [(.ref w_POOL_PRICED_ENERGY), (.int (9 : Int32)), (.ref b1), (.ref b1)])) rfl rfl (hb hby at_68)
  have V31 : Arv Z h31 b1 k1 (.object "com/example/tarcal/tarcal/schedules/Basis") (12 : Int32) [(.ref w_DAYS), (.ref w_ENERGY), (.ref w_ON_PEAK_ENERGY), (.ref w_OFF_PEAK_ENERGY), (.ref w_BILLING_DEMAND_DAYS), (.ref w_METERED_DEMAND_DAYS), (.ref w_FIXTURE_DAYS), (.ref w_HIGHEST_HOUR_ENERGY), (.ref w_GAS_INDEXED_ENERGY), (.ref w_POOL_PRICED_ENERGY), .null, .null] .null := Arv.set Ar30 q30 S30 M30 Hs30 G30 rfl W31 9 rfl (Nat.le_of_ble_eq_true rfl)
  have KK31 : Keep h0 h31 [] := KK28.wr W31 (Or.inr sz_b1)
  have OL31 := OL28.wr W31 g_b1
  have N31 := Fr.snoc X31 N28 g_b1
  obtain ⟨T32, X32, e32, st32⟩ := getS2 X31 hx hZ hown (host := "") (Or.inl (wd24 hw)) Via.refl e31 (pr21.ext OL31.2) (g := (mkF m 72 #[.val (.int p1), .unset, .unset, .unset, .unset, .unset] [(.int (10 : Int32)), (.ref b1), (.ref b1)])) rfl (hb hby at_72)
  obtain ⟨cl33, Ar33, q33, S33, M33, Hs33, G33⟩ := V31
  have hin33 : ¬ ((10 : Int32) < 0 ∨ cl33.slots.size ≤ ((10 : Int32)).toNatClampNeg) := inb_of S33 ⟨by decide, by decide⟩
  obtain ⟨T34, h34, X34, e34, W34, st34⟩ := stR X32 hx hZ e32 Ar33 (j := (10 : Int32)) hin33 rfl (Sto.ofV Ar33 q33 O1 (Ins.self (pr22.ext OL31.2))) (g := (mkF m 75 #[.val (.int p1), .unset, .unset, .unset, .unset, .unset] [(.ref w_ISO_COSTS), (.int (10 : Int32)), (.ref b1), (.ref b1)])) rfl rfl (hb hby at_75)
  have V34 : Arv Z h34 b1 k1 (.object "com/example/tarcal/tarcal/schedules/Basis") (12 : Int32) [(.ref w_DAYS), (.ref w_ENERGY), (.ref w_ON_PEAK_ENERGY), (.ref w_OFF_PEAK_ENERGY), (.ref w_BILLING_DEMAND_DAYS), (.ref w_METERED_DEMAND_DAYS), (.ref w_FIXTURE_DAYS), (.ref w_HIGHEST_HOUR_ENERGY), (.ref w_GAS_INDEXED_ENERGY), (.ref w_POOL_PRICED_ENERGY), (.ref w_ISO_COSTS), .null] .null := Arv.set Ar33 q33 S33 M33 Hs33 G33 rfl W34 10 rfl (Nat.le_of_ble_eq_true rfl)
  have KK34 : Keep h0 h34 [] := KK31.wr W34 (Or.inr sz_b1)
  have OL34 := OL31.wr W34 g_b1
  have N34 := Fr.snoc X34 N31 g_b1
  obtain ⟨T35, X35, e35, st35⟩ := getS2 X34 hx hZ hown (host := "") (Or.inl (wd26 hw)) Via.refl e34 (pr23.ext OL34.2) (g := (mkF m 79 #[.val (.int p1), .unset, .unset, .unset, .unset, .unset] [(.int (11 : Int32)), (.ref b1), (.ref b1)])) rfl (hb hby at_79)
  obtain ⟨cl36, Ar36, q36, S36, M36, Hs36, G36⟩ := V34
  have hin36 : ¬ ((11 : Int32) < 0 ∨ cl36.slots.size ≤ ((11 : Int32)).toNatClampNeg) := inb_of S36 ⟨by decide, by decide⟩
  obtain ⟨T37, h37, X37, e37, W37, st37⟩ := stR X35 hx hZ e35 Ar36 (j := (11 : Int32)) hin36 rfl (Sto.ofV Ar36 q36 O1 (Ins.self (pr24.ext OL34.2))) (g := (mkF m 82 #[.val (.int p1), .unset, .unset, .unset, .unset, .unset] [(.ref w_DISTRIBUTION_ACCESS_CHARGES), (.int (11 : Int32)), (.ref b1), (.ref b1)])) rfl rfl (hb hby at_82)
  have V37 : Arv Z h37 b1 k1 (.object "com/example/tarcal/tarcal/schedules/Basis") (12 : Int32) [(.ref w_DAYS), (.ref w_ENERGY), (.ref w_ON_PEAK_ENERGY), (.ref w_OFF_PEAK_ENERGY), (.ref w_BILLING_DEMAND_DAYS), (.ref w_METERED_DEMAND_DAYS), (.ref w_FIXTURE_DAYS), (.ref w_HIGHEST_HOUR_ENERGY), (.ref w_GAS_INDEXED_ENERGY), (.ref w_POOL_PRICED_ENERGY), (.ref w_ISO_COSTS), (.ref w_DISTRIBUTION_ACCESS_CHARGES)] .null := Arv.set Ar36 q36 S36 M36 Hs36 G36 rfl W37 11 rfl (Nat.le_of_ble_eq_true rfl)
  have KK37 : Keep h0 h37 [] := KK34.wr W37 (Or.inr sz_b1)
  have OL37 := OL34.wr W37 g_b1
  have N37 := Fr.snoc X37 N34 g_b1
  obtain ⟨cl38, Ar38, -, S38, -, Hs38, -⟩ := V37
  have hin38 : ¬ ((9 : Int32) < 0 ∨ cl38.slots.size ≤ ((9 : Int32)).toNatClampNeg) := inb_of S38 ⟨by decide, by decide⟩
  have hat38 : cl38.slots[((9 : Int32)).toNatClampNeg]? = some (.ref w_POOL_PRICED_ENERGY) := Hs38.at hin38 rfl
  obtain ⟨cq39, kq39, q39a, q39b, q39c⟩ := isOf hZ e37 (pr20.ext OL37.2)
  obtain ⟨_, _, ⟨T39, L39, k39, n39⟩, -, X39, ⟨Lc39, hQ39, l39, y39, z39⟩, st39⟩ := X37.virtualBack hx (y := (⟨"com/example/tarcal/tarcal/schedules/Basis", "perPeriod", "()Z"⟩ : MethodName)) (z := (⟨"com/example/tarcal/tarcal/schedules/Basis", "perPeriod", "()Z"⟩ : MethodName)) hown (mvT hZ (wd29 hw)) (mvT hZ (wd30 hw)) (notFace_of_selects (args := #[]) (mvT hZ (wd32 hw))) (mvT hZ (wd32 hw)) (mvT hZ (wd31 hw)) (by decide) (backOf (W := 0) (rm1_3 l Z a0 hw [] w_POOL_PRICED_ENERGY w_HIGHEST_HOUR_ENERGY w_GAS_INDEXED_ENERGY h37 n0 OL37 pr15 pr26 pr17 pr27 pr19) hZ (wd33 hw) (wd3 hw) (by decide) (by decide)) q39a q39c (g := (mkF m 122 #[.val (.int p1), .val (.ref b1), .val (.int (9 : Int32)), .val (.ref w_POOL_PRICED_ENERGY), .val (.int (1 : Int32)), .unset] [(.ref w_POOL_PRICED_ENERGY)])) rfl (by rw [hml]; rfl) (Steps.refl _) (argsL := []) (rest := []) (lenOf pd_0 rfl) rfl (by show 2 * 0 + _ ≤ _; exact Nat.le_of_eq rfl) (hb hby at_122) (fun _ _ => ⟨rfl, e37, (by decide : 1 + 0 ≤ _), (by decide : 12 + 0 ≤ _)⟩)
  dsimp only [Pt.U, Pt.locs, Pt.cells, Pt.slots] at X39 l39 y39 z39 st39 hQ39
  subst l39 y39 z39
  obtain ⟨rfl, Nq39, ec39⟩ := hQ39
  have N39 := Fr.app N37 Nq39
  obtain ⟨cq40, kq40, q40a, q40b, q40c⟩ := isOf hZ ec39 (pr20.ext OL37.2)
  obtain ⟨_, _, ⟨T40, L40, k40, n40⟩, -, X40, ⟨Lc40, hQ40, l40, y40, z40⟩, st40⟩ := X39.virtualBack hx (y := (⟨"com/example/tarcal/tarcal/schedules/Basis", "onDemand", "()Z"⟩ : MethodName)) (z := (⟨"com/example/tarcal/tarcal/schedules/Basis", "onDemand", "()Z"⟩ : MethodName)) hown (mvT hZ (wd37 hw)) (mvT hZ (wd38 hw)) (notFace_of_selects (args := #[]) (mvT hZ (wd40 hw))) (mvT hZ (wd40 hw)) (mvT hZ (wd39 hw)) (by decide) (backOf (W := 0) (rm2_0 l Z a0 hw [] w_POOL_PRICED_ENERGY h37 n0 OL37 pr28) hZ (wd41 hw) (wd3 hw) (by decide) (by decide)) q40a q40c (g := (mkF m 142 #[.val (.int p1), .val (.ref b1), .val (.int (9 : Int32)), .val (.ref w_POOL_PRICED_ENERGY), .val (.int (1 : Int32)), .val (.int (1 : Int32))] [(.ref w_POOL_PRICED_ENERGY)])) rfl (by rw [hml]; rfl) (Steps.refl _) (argsL := []) (rest := []) (lenOf pd_0 rfl) rfl (by show 2 * 0 + _ ≤ _; exact Nat.le_of_eq rfl) (hb hby at_142) (fun _ _ => ⟨rfl, ec39, (by decide : 1 + 0 ≤ _), (by decide : 12 + 0 ≤ _)⟩)
  dsimp only [Pt.U, Pt.locs, Pt.cells, Pt.slots] at X40 l40 y40 z40 st40 hQ40
  subst l40 y40 z40
  obtain ⟨rfl, Nq40, ec40⟩ := hQ40
  have N40 := Fr.app N39 Nq40
  obtain ⟨cq41, kq41, q41a, q41b, q41c⟩ := isOf hZ ec40 (pr20.ext OL37.2)
  obtain ⟨_, _, ⟨T41, L41, k41, n41⟩, -, X41, ⟨Lc41, hQ41, l41, y41, z41⟩, st41⟩ := X40.virtualBack hx (y := (⟨"com/example/tarcal/tarcal/schedules/Basis", "byTimeOfUse", "()Z"⟩ : MethodName)) (z := (⟨"com/example/tarcal/tarcal/schedules/Basis", "byTimeOfUse", "()Z"⟩ : MethodName)) hown (mvT hZ (wd44 hw)) (mvT hZ (wd45 hw)) (notFace_of_selects (args := #[]) (mvT hZ (wd47 hw))) (mvT hZ (wd47 hw)) (mvT hZ (wd46 hw)) (by decide) (backOf (W := 0) (rm3_0 l Z a0 hw [] w_POOL_PRICED_ENERGY h37 n0 OL37 pr29) hZ (wd48 hw) (wd3 hw) (by decide) (by decide)) q41a q41c (g := (mkF m 149 #[.val (.int p1), .val (.ref b1), .val (.int (9 : Int32)), .val (.ref w_POOL_PRICED_ENERGY), .val (.int (1 : Int32)), .val (.int (1 : Int32))] [(.ref w_POOL_PRICED_ENERGY)])) rfl (by rw [hml]; rfl) (Steps.refl _) (argsL := []) (rest := []) (lenOf pd_0 rfl) rfl (by show 2 * 0 + _ ≤ _; exact Nat.le_of_eq rfl) (hb hby at_149) (fun _ _ => ⟨rfl, ec40, (by decide : 1 + 0 ≤ _), (by decide : 12 + 0 ≤ _)⟩)
  dsimp only [Pt.U, Pt.locs, Pt.cells, Pt.slots] at X41 l41 y41 z41 st41 hQ41
  subst l41 y41 z41
  obtain ⟨rfl, Nq41, ec41⟩ := hQ41
  have N41 := Fr.app N40 Nq41
  obtain ⟨cq42, kq42, q42a, q42b, q42c⟩ := isOf hZ ec41 (pr20.ext OL37.2)
  obtain ⟨_, _, ⟨T42, L42, k42, n42⟩, -, X42, ⟨Lc42, hQ42, l42, y42, z42⟩, st42⟩ := X41.virtualBack hx (y := (⟨"com/example/tarcal/tarcal/schedules/Basis", "passedThrough", "()Z"⟩ : MethodName)) (z := (⟨"com/example/tarcal/tarcal/schedules/Basis", "passedThrough", "()Z"⟩ : MethodName)) hown (mvT hZ (wd51 hw)) (mvT hZ (wd52 hw)) (notFace_of_selects (args := #[]) (mvT hZ (wd54 hw))) (mvT hZ (wd54 hw)) (mvT hZ (wd53 hw)) (by decide) (backOf (W := 0) (rm4_0 l Z a0 hw [] w_POOL_PRICED_ENERGY w_ISO_COSTS h37 n0 OL37 pr21 pr30) hZ (wd55 hw) (wd3 hw) (by decide) (by decide)) q42a q42c (g := (mkF m 156 #[.val (.int p1), .val (.ref b1), .val (.int (9 : Int32)), .val (.ref w_POOL_PRICED_ENERGY), .val (.int (1 : Int32)), .val (.int (1 : Int32))] [(.ref w_POOL_PRICED_ENERGY)])) rfl (by rw [hml]; rfl) (Steps.refl _) (argsL := []) (rest := []) (lenOf pd_0 rfl) rfl (by show 2 * 0 + _ ≤ _; exact Nat.le_of_eq rfl) (hb hby at_156) (fun _ _ => ⟨rfl, ec41, (by decide : 1 + 0 ≤ _), (by decide : 12 + 0 ≤ _)⟩)
  dsimp only [Pt.U, Pt.locs, Pt.cells, Pt.slots] at X42 l42 y42 z42 st42 hQ42
  subst l42 y42 z42
  obtain ⟨rfl, Nq42, ec42⟩ := hQ42
  have N42 := Fr.app N41 Nq42
  obtain ⟨fs, hr, hrun, hended, hW, hsame⟩ := X42.leave (v := some (.int (1 : Int32))) (fun h => by rw [Bd.returns] at h; cases h)
  refine ⟨_, _, pre0 _ ?_, hrun, hended, _, _, rfl, ?_, ⟨_, rfl⟩, hW, hsame.mono (by decide) (by decide)⟩
  · show Steps p.tables e below (s₁.setTop (mkF m 0 #[.val (.int p1), .unset, .unset, .unset, .unset, .unset] [])) _
    refine XS.bipush X0.here hx rfl (hb hby at_0) ?_
    show Steps p.tables e below (s₁.setTop (mkF m 2 #[.val (.int p1), .unset, .unset, .unset, .unset, .unset] [(.int (12 : Int32))])) _
    refine st1 _ ?_
    show Steps p.tables e below (T1.setTop (mkF m 5 #[.val (.int p1), .unset, .unset, .unset, .unset, .unset] [(.ref b1)])) _
    refine XS.dup X1.here hx rfl (hb hby at_5) rfl rfl ?_
    show Steps p.tables e below (T1.setTop (mkF m 6 #[.val (.int p1), .unset, .unset, .unset, .unset, .unset] [(.ref b1), (.ref b1)])) _
    refine XS.iconst X1.here hx rfl (hb hby at_6) ?_
    show Steps p.tables e below (T1.setTop (mkF m 7 #[.val (.int p1), .unset, .unset, .unset, .unset, .unset] [(.int (0 : Int32)), (.ref b1), (.ref b1)])) _
    refine st2 _ ?_
    show Steps p.tables e below (T2.setTop (mkF m 10 #[.val (.int p1), .unset, .unset, .unset, .unset, .unset] [(.ref w_DAYS), (.int (0 : Int32)), (.ref b1), (.ref b1)])) _
    refine st4 _ ?_
    show Steps p.tables e below (T4.setTop (mkF m 11 #[.val (.int p1), .unset, .unset, .unset, .unset, .unset] [(.ref b1)])) _
    refine XS.dup X4.here hx rfl (hb hby at_11) rfl rfl ?_
    show Steps p.tables e below (T4.setTop (mkF m 12 #[.val (.int p1), .unset, .unset, .unset, .unset, .unset] [(.ref b1), (.ref b1)])) _
    refine XS.iconst X4.here hx rfl (hb hby at_12) ?_
    show Steps p.tables e below (T4.setTop (mkF m 13 #[.val (.int p1), .unset, .unset, .unset, .unset, .unset] [(.int (1 : Int32)), (.ref b1), (.ref b1)])) _
    refine st5 _ ?_
    show Steps p.tables e below (T5.setTop (mkF m 16 #[.val (.int p1), .unset, .unset, .unset, .unset, .unset] [(.ref w_ENERGY), (.int (1 : Int32)), (.ref b1), (.ref b1)])) _
    refine st7 _ ?_
    show Steps p.tables e below (T7.setTop (mkF m 17 #[.val (.int p1), .unset, .unset, .unset, .unset, .unset] [(.ref b1)])) _
    refine XS.dup X7.here hx rfl (hb hby at_17) rfl rfl ?_
    show Steps p.tables e below (T7.setTop (mkF m 18 #[.val (.int p1), .unset, .unset, .unset, .unset, .unset] [(.ref b1), (.ref b1)])) _
    refine XS.iconst X7.here hx rfl (hb hby at_18) ?_
    show Steps p.tables e below (T7.setTop (mkF m 19 #[.val (.int p1), .unset, .unset, .unset, .unset, .unset] [(.int (2 : Int32)), (.ref b1), (.ref b1)])) _
    refine st8 _ ?_
    show Steps p.tables e below (T8.setTop (mkF m 22 #[.val (.int p1), .unset, .unset, .unset, .unset, .unset] [(.ref w_ON_PEAK_ENERGY), (.int (2 : Int32)), (.ref b1), (.ref b1)])) _
    refine st10 _ ?_
    show Steps p.tables e below (T10.setTop (mkF m 23 #[.val (.int p1), .unset, .unset, .unset, .unset, .unset] [(.ref b1)])) _
    refine XS.dup X10.here hx rfl (hb hby at_23) rfl rfl ?_
    show Steps p.tables e below (T10.setTop (mkF m 24 #[.val (.int p1), .unset, .unset, .unset, .unset, .unset] [(.ref b1), (.ref b1)])) _
    refine XS.iconst X10.here hx rfl (hb hby at_24) ?_
    show Steps p.tables e below (T10.setTop (mkF m 25 #[.val (.int p1), .unset, .unset, .unset, .unset, .unset] [(.int (3 : Int32)), (.ref b1), (.ref b1)])) _
    refine st11 _ ?_
    show Steps p.tables e below (T11.setTop (mkF m 28 #[.val (.int p1), .unset, .unset, .unset, .unset, .unset] [(.ref w_OFF_PEAK_ENERGY), (.int (3 : Int32)), (.ref b1), (.ref b1)])) _
    refine st13 _ ?_
    show Steps p.tables e below (T13.setTop (mkF m 29 #[.val (.int p1), .unset, .unset, .unset, .unset, .unset] [(.ref b1)])) _
    refine XS.dup X13.here hx rfl (hb hby at_29) rfl rfl ?_
    show Steps p.tables e below (T13.setTop (mkF m 30 #[.val (.int p1), .unset, .unset, .unset, .unset, .unset] [(.ref b1), (.ref b1)])) _
    refine XS.iconst X13.here hx rfl (hb hby at_30) ?_
    show Steps p.tables e below (T13.setTop (mkF m 31 #[.val (.int p1), .unset, .unset, .unset, .unset, .unset] [(.int (4 : Int32)), (.ref b1), (.ref b1)])) _
    refine st14 _ ?_
    show Steps p.tables e below (T14.setTop (mkF m 34 #[.val (.int p1), .unset, .unset, .unset, .unset, .unset] [(.ref w_BILLING_DEMAND_DAYS), (.int (4 : Int32)), (.ref b1), (.ref b1)])) _
    refine st16 _ ?_
    show Steps p.tables e below (T16.setTop (mkF m 35 #[.val (.int p1), .unset, .unset, .unset, .unset, .unset] [(.ref b1)])) _
    refine XS.dup X16.here hx rfl (hb hby at_35) rfl rfl ?_
    show Steps p.tables e below (T16.setTop (mkF m 36 #[.val (.int p1), .unset, .unset, .unset, .unset, .unset] [(.ref b1), (.ref b1)])) _
    refine XS.iconst X16.here hx rfl (hb hby at_36) ?_
    show Steps p.tables e below (T16.setTop (mkF m 37 #[.val (.int p1), .unset, .unset, .unset, .unset, .unset] [(.int (5 : Int32)), (.ref b1), (.ref b1)])) _
    refine st17 _ ?_
    show Steps p.tables e below (T17.setTop (mkF m 40 #[.val (.int p1), .unset, .unset, .unset, .unset, .unset] [(.ref w_METERED_DEMAND_DAYS), (.int (5 : Int32)), (.ref b1), (.ref b1)])) _
    refine st19 _ ?_
    show Steps p.tables e below (T19.setTop (mkF m 41 #[.val (.int p1), .unset, .unset, .unset, .unset, .unset] [(.ref b1)])) _
    refine XS.dup X19.here hx rfl (hb hby at_41) rfl rfl ?_
    show Steps p.tables e below (T19.setTop (mkF m 42 #[.val (.int p1), .unset, .unset, .unset, .unset, .unset] [(.ref b1), (.ref b1)])) _
    refine XS.bipush X19.here hx rfl (hb hby at_42) ?_
    show Steps p.tables e below (T19.setTop (mkF m 44 #[.val (.int p1), .unset, .unset, .unset, .unset, .unset] [(.int (6 : Int32)), (.ref b1), (.ref b1)])) _
    refine st20 _ ?_
    show Steps p.tables e below (T20.setTop (mkF m 47 #[.val (.int p1), .unset, .unset, .unset, .unset, .unset] [(.ref w_FIXTURE_DAYS), (.int (6 : Int32)), (.ref b1), (.ref b1)])) _
    refine st22 _ ?_
    show Steps p.tables e below (T22.setTop (mkF m 48 #[.val (.int p1), .unset, .unset, .unset, .unset, .unset] [(.ref b1)])) _
    refine XS.dup X22.here hx rfl (hb hby at_48) rfl rfl ?_
    show Steps p.tables e below (T22.setTop (mkF m 49 #[.val (.int p1), .unset, .unset, .unset, .unset, .unset] [(.ref b1), (.ref b1)])) _
    refine XS.bipush X22.here hx rfl (hb hby at_49) ?_
    show Steps p.tables e below (T22.setTop (mkF m 51 #[.val (.int p1), .unset, .unset, .unset, .unset, .unset] [(.int (7 : Int32)), (.ref b1), (.ref b1)])) _
    refine st23 _ ?_
    show Steps p.tables e below (T23.setTop (mkF m 54 #[.val (.int p1), .unset, .unset, .unset, .unset, .unset] [(.ref w_HIGHEST_HOUR_ENERGY), (.int (7 : Int32)), (.ref b1), (.ref b1)])) _
    refine st25 _ ?_
    show Steps p.tables e below (T25.setTop (mkF m 55 #[.val (.int p1), .unset, .unset, .unset, .unset, .unset] [(.ref b1)])) _
    refine XS.dup X25.here hx rfl (hb hby at_55) rfl rfl ?_
    show Steps p.tables e below (T25.setTop (mkF m 56 #[.val (.int p1), .unset, .unset, .unset, .unset, .unset] [(.ref b1), (.ref b1)])) _
    refine XS.bipush X25.here hx rfl (hb hby at_56) ?_
    show Steps p.tables e below (T25.setTop (mkF m 58 #[.val (.int p1), .unset, .unset, .unset, .unset, .unset] [(.int (8 : Int32)), (.ref b1), (.ref b1)])) _
    refine st26 _ ?_
    show Steps p.tables e below (T26.setTop (mkF m 61 #[.val (.int p1), .unset, .unset, .unset, .unset, .unset] [(.ref w_GAS_INDEXED_ENERGY), (.int (8 : Int32)), (.ref b1), (.ref b1)])) _
    refine st28 _ ?_
    show Steps p.tables e below (T28.setTop (mkF m 62 #[.val (.int p1), .unset, .unset, .unset, .unset, .unset] [(.ref b1)])) _
    refine XS.dup X28.here hx rfl (hb hby at_62) rfl rfl ?_
    show Steps p.tables e below (T28.setTop (mkF m 63 #[.val (.int p1), .unset, .unset, .unset, .unset, .unset] [(.ref b1), (.ref b1)])) _
    refine XS.bipush X28.here hx rfl (hb hby at_63) ?_
    show Steps p.tables e below (T28.setTop (mkF m 65 #[.val (.int p1), .unset, .unset, .unset, .unset, .unset] [(.int (9 : Int32)), (.ref b1), (.ref b1)])) _
    refine st29 _ ?_
    show Steps p.tables e below (T29.setTop (mkF m 68 #[.val (.int p1), .unset, .unset, .unset, .unset, .unset] [(.ref w_POOL_PRICED_ENERGY), (.int (9 : Int32)), (.ref b1), (.ref b1)])) _
    refine st31 _ ?_
    show Steps p.tables e below (T31.setTop (mkF m 69 #[.val (.int p1), .unset, .unset, .unset, .unset, .unset] [(.ref b1)])) _
    refine XS.dup X31.here hx rfl (hb hby at_69) rfl rfl ?_
    show Steps p.tables e below (T31.setTop (mkF m 70 #[.val (.int p1), .unset, .unset, .unset, .unset, .unset] [(.ref b1), (.ref b1)])) _
    refine XS.bipush X31.here hx rfl (hb hby at_70) ?_
    show Steps p.tables e below (T31.setTop (mkF m 72 #[.val (.int p1), .unset, .unset, .unset, .unset, .unset] [(.int (10 : Int32)), (.ref b1), (.ref b1)])) _
    refine st32 _ ?_
    show Steps p.tables e below (T32.setTop (mkF m 75 #[.val (.int p1), .unset, .unset, .unset, .unset, .unset] [(.ref w_ISO_COSTS), (.int (10 : Int32)), (.ref b1), (.ref b1)])) _
    refine st34 _ ?_
    show Steps p.tables e below (T34.setTop (mkF m 76 #[.val (.int p1), .unset, .unset, .unset, .unset, .unset] [(.ref b1)])) _
    refine XS.dup X34.here hx rfl (hb hby at_76) rfl rfl ?_
    show Steps p.tables e below (T34.setTop (mkF m 77 #[.val (.int p1), .unset, .unset, .unset, .unset, .unset] [(.ref b1), (.ref b1)])) _
    refine XS.bipush X34.here hx rfl (hb hby at_77) ?_
    show Steps p.tables e below (T34.setTop (mkF m 79 #[.val (.int p1), .unset, .unset, .unset, .unset, .unset] [(.int (11 : Int32)), (.ref b1), (.ref b1)])) _
    refine st35 _ ?_
    show Steps p.tables e below (T35.setTop (mkF m 82 #[.val (.int p1), .unset, .unset, .unset, .unset, .unset] [(.ref w_DISTRIBUTION_ACCESS_CHARGES), (.int (11 : Int32)), (.ref b1), (.ref b1)])) _
    refine st37 _ ?_
    show Steps p.tables e below (T37.setTop (mkF m 83 #[.val (.int p1), .unset, .unset, .unset, .unset, .unset] [(.ref b1)])) _
    refine XS.astoreN X37.here hx rfl (hb hby at_83) rfl rfl (l' := #[.val (.int p1), .val (.ref b1), .unset, .unset, .unset, .unset]) rfl ?_
    show Steps p.tables e below (T37.setTop (mkF m 84 #[.val (.int p1), .val (.ref b1), .unset, .unset, .unset, .unset] [])) _
    refine XS.iloadN X37.here hx rfl (hb hby at_84) rfl ?_
    show Steps p.tables e below (T37.setTop (mkF m 85 #[.val (.int p1), .val (.ref b1), .unset, .unset, .unset, .unset] [(.int p1)])) _
    refine X37.ldcInt hx hown (mvT hZ (wd28 hw)) (g := (mkF m 85 #[.val (.int p1), .val (.ref b1), .unset, .unset, .unset, .unset] [(.int p1)])) rfl (hb hby at_85) _ ?_
    show Steps p.tables e below (T37.setTop (mkF m 87 #[.val (.int p1), .val (.ref b1), .unset, .unset, .unset, .unset] [(.int (2147483647 : Int32)), (.int p1)])) _
    refine XS.iand X37.here hx rfl (hb hby at_87) rfl ?_
    show Steps p.tables e below (T37.setTop (mkF m 88 #[.val (.int p1), .val (.ref b1), .unset, .unset, .unset, .unset] [(.int (p1 &&& (2147483647 : Int32)))])) _
    refine XS.bipush X37.here hx rfl (hb hby at_88) ?_
    show Steps p.tables e below (T37.setTop (mkF m 90 #[.val (.int p1), .val (.ref b1), .unset, .unset, .unset, .unset] [(.int (12 : Int32)), (.int (p1 &&& (2147483647 : Int32)))])) _
    refine iremM X37 hx rfl (hb hby at_90) rfl (by decide) ?_
    show Steps p.tables e below (T37.setTop (mkF m 91 #[.val (.int p1), .val (.ref b1), .unset, .unset, .unset, .unset] [(.int ((p1 &&& (2147483647 : Int32)) % (12 : Int32)))])) _
    rw [pr25]
    show Steps p.tables e below (T37.setTop (mkF m 91 #[.val (.int p1), .val (.ref b1), .unset, .unset, .unset, .unset] [(.int (9 : Int32))])) _
    refine XS.istoreN X37.here hx rfl (hb hby at_91) rfl (l' := #[.val (.int p1), .val (.ref b1), .val (.int (9 : Int32)), .unset, .unset, .unset]) rfl ?_
    show Steps p.tables e below (T37.setTop (mkF m 92 #[.val (.int p1), .val (.ref b1), .val (.int (9 : Int32)), .unset, .unset, .unset] [])) _
    refine XS.aloadN X37.here hx rfl (hb hby at_92) rfl rfl ?_
    show Steps p.tables e below (T37.setTop (mkF m 93 #[.val (.int p1), .val (.ref b1), .val (.int (9 : Int32)), .unset, .unset, .unset] [(.ref b1)])) _
    refine XS.iloadN X37.here hx rfl (hb hby at_93) rfl ?_
    show Steps p.tables e below (T37.setTop (mkF m 94 #[.val (.int p1), .val (.ref b1), .val (.int (9 : Int32)), .unset, .unset, .unset] [(.int (9 : Int32)), (.ref b1)])) _
    refine X37.aaload hx (j := (9 : Int32)) (v := (.ref w_POOL_PRICED_ENERGY)) (by rw [e37]; exact Ar38.1) (State.isArrayOf_alike hZ.alike Ar38.2.1) rfl Ar38.2.2 hin38 hat38 (g := (mkF m 94 #[.val (.int p1), .val (.ref b1), .val (.int (9 : Int32)), .unset, .unset, .unset] [(.int (9 : Int32)), (.ref b1)])) rfl rfl (hb hby at_94) _ ?_
    show Steps p.tables e below (T37.setTop (mkF m 95 #[.val (.int p1), .val (.ref b1), .val (.int (9 : Int32)), .unset, .unset, .unset] [(.ref w_POOL_PRICED_ENERGY)])) _
    refine XS.astoreN X37.here hx rfl (hb hby at_95) rfl rfl (l' := #[.val (.int p1), .val (.ref b1), .val (.int (9 : Int32)), .val (.ref w_POOL_PRICED_ENERGY), .unset, .unset]) rfl ?_
    show Steps p.tables e below (T37.setTop (mkF m 96 #[.val (.int p1), .val (.ref b1), .val (.int (9 : Int32)), .val (.ref w_POOL_PRICED_ENERGY), .unset, .unset] [])) _
    refine XS.iloadN X37.here hx rfl (hb hby at_96) rfl ?_
    show Steps p.tables e below (T37.setTop (mkF m 97 #[.val (.int p1), .val (.ref b1), .val (.int (9 : Int32)), .val (.ref w_POOL_PRICED_ENERGY), .unset, .unset] [(.int (9 : Int32))])) _
    refine XS.bipush X37.here hx rfl (hb hby at_97) ?_
    show Steps p.tables e below (T37.setTop (mkF m 99 #[.val (.int p1), .val (.ref b1), .val (.int (9 : Int32)), .val (.ref w_POOL_PRICED_ENERGY), .unset, .unset] [(.int (7 : Int32)), (.int (9 : Int32))])) _
    refine XS.icmpNo X37.here hx rfl (hb hby at_99) rfl (feq (by decide : ¬ ((9 : Int32) = (7 : Int32)))).1 ?_
    show Steps p.tables e below (T37.setTop (mkF m 102 #[.val (.int p1), .val (.ref b1), .val (.int (9 : Int32)), .val (.ref w_POOL_PRICED_ENERGY), .unset, .unset] [])) _
    refine XS.iloadN X37.here hx rfl (hb hby at_102) rfl ?_
    show Steps p.tables e below (T37.setTop (mkF m 103 #[.val (.int p1), .val (.ref b1), .val (.int (9 : Int32)), .val (.ref w_POOL_PRICED_ENERGY), .unset, .unset] [(.int (9 : Int32))])) _
    refine XS.bipush X37.here hx rfl (hb hby at_103) ?_
    show Steps p.tables e below (T37.setTop (mkF m 105 #[.val (.int p1), .val (.ref b1), .val (.int (9 : Int32)), .val (.ref w_POOL_PRICED_ENERGY), .unset, .unset] [(.int (8 : Int32)), (.int (9 : Int32))])) _
    refine XS.icmpNo X37.here hx rfl (hb hby at_105) rfl (feq (by decide : ¬ ((9 : Int32) = (8 : Int32)))).1 ?_
    show Steps p.tables e below (T37.setTop (mkF m 108 #[.val (.int p1), .val (.ref b1), .val (.int (9 : Int32)), .val (.ref w_POOL_PRICED_ENERGY), .unset, .unset] [])) _
    refine XS.iloadN X37.here hx rfl (hb hby at_108) rfl ?_
    show Steps p.tables e below (T37.setTop (mkF m 109 #[.val (.int p1), .val (.ref b1), .val (.int (9 : Int32)), .val (.ref w_POOL_PRICED_ENERGY), .unset, .unset] [(.int (9 : Int32))])) _
    refine XS.bipush X37.here hx rfl (hb hby at_109) ?_
    show Steps p.tables e below (T37.setTop (mkF m 111 #[.val (.int p1), .val (.ref b1), .val (.int (9 : Int32)), .val (.ref w_POOL_PRICED_ENERGY), .unset, .unset] [(.int (9 : Int32)), (.int (9 : Int32))])) _
    refine XS.icmpNo X37.here hx rfl (hb hby at_111) rfl (teq (rfl : (9 : Int32) = (9 : Int32))).2 ?_
    show Steps p.tables e below (T37.setTop (mkF m 114 #[.val (.int p1), .val (.ref b1), .val (.int (9 : Int32)), .val (.ref w_POOL_PRICED_ENERGY), .unset, .unset] [])) _
    refine XS.iconst X37.here hx rfl (hb hby at_114) ?_
    show Steps p.tables e below (T37.setTop (mkF m 115 #[.val (.int p1), .val (.ref b1), .val (.int (9 : Int32)), .val (.ref w_POOL_PRICED_ENERGY), .unset, .unset] [(.int (1 : Int32))])) _
    refine XS.goto X37.here hx rfl (pc0 := 115) (pc' := 119) rfl (hb hby at_115) (by decide) (by decide) ?_
    show Steps p.tables e below (T37.setTop (mkF m 119 #[.val (.int p1), .val (.ref b1), .val (.int (9 : Int32)), .val (.ref w_POOL_PRICED_ENERGY), .unset, .unset] [(.int (1 : Int32))])) _
    refine XS.istore X37.here hx rfl (hb hby at_119) rfl (l' := #[.val (.int p1), .val (.ref b1), .val (.int (9 : Int32)), .val (.ref w_POOL_PRICED_ENERGY), .val (.int (1 : Int32)), .unset]) rfl ?_
    show Steps p.tables e below (T37.setTop (mkF m 121 #[.val (.int p1), .val (.ref b1), .val (.int (9 : Int32)), .val (.ref w_POOL_PRICED_ENERGY), .val (.int (1 : Int32)), .unset] [])) _
    refine XS.aloadN X37.here hx rfl (hb hby at_121) rfl rfl ?_
    show Steps p.tables e below (T37.setTop (mkF m 122 #[.val (.int p1), .val (.ref b1), .val (.int (9 : Int32)), .val (.ref w_POOL_PRICED_ENERGY), .val (.int (1 : Int32)), .unset] [(.ref w_POOL_PRICED_ENERGY)])) _
    refine st39.trans ?_
    show Steps p.tables e below (T39.setTop (mkF m 125 #[.val (.int p1), .val (.ref b1), .val (.int (9 : Int32)), .val (.ref w_POOL_PRICED_ENERGY), .val (.int (1 : Int32)), .unset] [(.int (1 : Int32))])) _
    refine XS.istore X39.here hx rfl (hb hby at_125) rfl (l' := #[.val (.int p1), .val (.ref b1), .val (.int (9 : Int32)), .val (.ref w_POOL_PRICED_ENERGY), .val (.int (1 : Int32)), .val (.int (1 : Int32))]) rfl ?_
    show Steps p.tables e below (T39.setTop (mkF m 127 #[.val (.int p1), .val (.ref b1), .val (.int (9 : Int32)), .val (.ref w_POOL_PRICED_ENERGY), .val (.int (1 : Int32)), .val (.int (1 : Int32))] [])) _
    refine XS.iload X39.here hx rfl (hb hby at_127) rfl ?_
    show Steps p.tables e below (T39.setTop (mkF m 129 #[.val (.int p1), .val (.ref b1), .val (.int (9 : Int32)), .val (.ref w_POOL_PRICED_ENERGY), .val (.int (1 : Int32)), .val (.int (1 : Int32))] [(.int (1 : Int32))])) _
    refine XS.iload X39.here hx rfl (hb hby at_129) rfl ?_
    show Steps p.tables e below (T39.setTop (mkF m 131 #[.val (.int p1), .val (.ref b1), .val (.int (9 : Int32)), .val (.ref w_POOL_PRICED_ENERGY), .val (.int (1 : Int32)), .val (.int (1 : Int32))] [(.int (1 : Int32)), (.int (1 : Int32))])) _
    refine XS.icmpYes X39.here hx rfl (pc0 := 131) (pc' := 136) rfl (hb hby at_131) rfl (teq (rfl : (1 : Int32) = (1 : Int32))).1 (by decide) (by decide) ?_
    show Steps p.tables e below (T39.setTop (mkF m 136 #[.val (.int p1), .val (.ref b1), .val (.int (9 : Int32)), .val (.ref w_POOL_PRICED_ENERGY), .val (.int (1 : Int32)), .val (.int (1 : Int32))] [])) _
    refine XS.iload X39.here hx rfl (hb hby at_136) rfl ?_
    show Steps p.tables e below (T39.setTop (mkF m 138 #[.val (.int p1), .val (.ref b1), .val (.int (9 : Int32)), .val (.ref w_POOL_PRICED_ENERGY), .val (.int (1 : Int32)), .val (.int (1 : Int32))] [(.int (1 : Int32))])) _
    refine XS.ifNo X39.here hx rfl (hb hby at_138) rfl ((if0 _ _).trans (feq (by decide : ¬ ((1 : Int32) = (0 : Int32)))).1) ?_
    show Steps p.tables e below (T39.setTop (mkF m 141 #[.val (.int p1), .val (.ref b1), .val (.int (9 : Int32)), .val (.ref w_POOL_PRICED_ENERGY), .val (.int (1 : Int32)), .val (.int (1 : Int32))] [])) _
    refine XS.aloadN X39.here hx rfl (hb hby at_141) rfl rfl ?_
    show Steps p.tables e below (T39.setTop (mkF m 142 #[.val (.int p1), .val (.ref b1), .val (.int (9 : Int32)), .val (.ref w_POOL_PRICED_ENERGY), .val (.int (1 : Int32)), .val (.int (1 : Int32))] [(.ref w_POOL_PRICED_ENERGY)])) _
    refine st40.trans ?_
    show Steps p.tables e below (T40.setTop (mkF m 145 #[.val (.int p1), .val (.ref b1), .val (.int (9 : Int32)), .val (.ref w_POOL_PRICED_ENERGY), .val (.int (1 : Int32)), .val (.int (1 : Int32))] [(.int (0 : Int32))])) _
    refine XS.ifNo X40.here hx rfl (hb hby at_145) rfl ((if0 _ _).trans (teq (rfl : (0 : Int32) = (0 : Int32))).2) ?_
    show Steps p.tables e below (T40.setTop (mkF m 148 #[.val (.int p1), .val (.ref b1), .val (.int (9 : Int32)), .val (.ref w_POOL_PRICED_ENERGY), .val (.int (1 : Int32)), .val (.int (1 : Int32))] [])) _
    refine XS.aloadN X40.here hx rfl (hb hby at_148) rfl rfl ?_
    show Steps p.tables e below (T40.setTop (mkF m 149 #[.val (.int p1), .val (.ref b1), .val (.int (9 : Int32)), .val (.ref w_POOL_PRICED_ENERGY), .val (.int (1 : Int32)), .val (.int (1 : Int32))] [(.ref w_POOL_PRICED_ENERGY)])) _
    refine st41.trans ?_
    show Steps p.tables e below (T41.setTop (mkF m 152 #[.val (.int p1), .val (.ref b1), .val (.int (9 : Int32)), .val (.ref w_POOL_PRICED_ENERGY), .val (.int (1 : Int32)), .val (.int (1 : Int32))] [(.int (0 : Int32))])) _
    refine XS.ifNo X41.here hx rfl (hb hby at_152) rfl ((if0 _ _).trans (teq (rfl : (0 : Int32) = (0 : Int32))).2) ?_
    show Steps p.tables e below (T41.setTop (mkF m 155 #[.val (.int p1), .val (.ref b1), .val (.int (9 : Int32)), .val (.ref w_POOL_PRICED_ENERGY), .val (.int (1 : Int32)), .val (.int (1 : Int32))] [])) _
    refine XS.aloadN X41.here hx rfl (hb hby at_155) rfl rfl ?_
    show Steps p.tables e below (T41.setTop (mkF m 156 #[.val (.int p1), .val (.ref b1), .val (.int (9 : Int32)), .val (.ref w_POOL_PRICED_ENERGY), .val (.int (1 : Int32)), .val (.int (1 : Int32))] [(.ref w_POOL_PRICED_ENERGY)])) _
    refine st42.trans ?_
    show Steps p.tables e below (T42.setTop (mkF m 159 #[.val (.int p1), .val (.ref b1), .val (.int (9 : Int32)), .val (.ref w_POOL_PRICED_ENERGY), .val (.int (1 : Int32)), .val (.int (1 : Int32))] [(.int (0 : Int32))])) _
    refine XS.ifYes X42.here hx rfl (pc0 := 159) (pc' := 164) rfl (hb hby at_159) rfl ((if0 _ _).trans (teq (rfl : (0 : Int32) = (0 : Int32))).1) (by decide) (by decide) ?_
    show Steps p.tables e below (T42.setTop (mkF m 164 #[.val (.int p1), .val (.ref b1), .val (.int (9 : Int32)), .val (.ref w_POOL_PRICED_ENERGY), .val (.int (1 : Int32)), .val (.int (1 : Int32))] [])) _
    refine XS.iconst X42.here hx rfl (hb hby at_164) ?_
    show Steps p.tables e below (T42.setTop (mkF m 165 #[.val (.int p1), .val (.ref b1), .val (.int (9 : Int32)), .val (.ref w_POOL_PRICED_ENERGY), .val (.int (1 : Int32)), .val (.int (1 : Int32))] [(.int (1 : Int32))])) _
    exact retN X42 hx (t := .boolean) Bd.returns (by simp) (hb hby at_165) hr
  · exact ⟨rfl, N42⟩
set_option maxRecDepth 65536 in
set_option maxHeartbeats 40000000 in
theorem rm0_10 (l : Launch) (Z : State) (a0 : Array Value) (hw : ∀ d ∈ tables_1, d.before a0 Z = true) (ws : List Jvm.Cond) (p1 : Int32) (w_DAYS : Addr) (w_ENERGY : Addr) (w_ON_PEAK_ENERGY : Addr) (w_OFF_PEAK_ENERGY : Addr) (w_BILLING_DEMAND_DAYS : Addr) (w_METERED_DEMAND_DAYS : Addr) (w_FIXTURE_DAYS : Addr) (w_HIGHEST_HOUR_ENERGY : Addr) (w_GAS_INDEXED_ENERGY : Addr) (w_POOL_PRICED_ENERGY : Addr) (w_ISO_COSTS : Addr) (w_DISTRIBUTION_ACCESS_CHARGES : Addr) (h0 : Heap) (n0 : Nat) (OL0 : Old Z n0 h0) (pr1 : Sta Z Z.heap "com/example/tarcal/tarcal/schedules/Basis" "DAYS" "Lcom/example/tarcal/tarcal/schedules/Basis;" (.ref w_DAYS)) (pr2 : Exa Z Z.heap w_DAYS "com/example/tarcal/tarcal/schedules/Basis") (pr3 : Sta Z Z.heap "com/example/tarcal/tarcal/schedules/Basis" "ENERGY" "Lcom/example/tarcal/tarcal/schedules/Basis;" (.ref w_ENERGY)) (pr4 : Exa Z Z.heap w_ENERGY "com/example/tarcal/tarcal/schedules/Basis") (pr5 : Sta Z Z.heap "com/example/tarcal/tarcal/schedules/Basis" "ON_PEAK_ENERGY" "Lcom/example/tarcal/tarcal/schedules/Basis;" (.ref w_ON_PEAK_ENERGY)) (pr6 : Exa Z Z.heap w_ON_PEAK_ENERGY "com/example/tarcal/tarcal/schedules/Basis") (pr7 : Sta Z Z.heap "com/example/tarcal/tarcal/schedules/Basis" "OFF_PEAK_ENERGY" "Lcom/example/tarcal/tarcal/schedules/Basis;" (.ref w_OFF_PEAK_ENERGY)) (pr8 : Exa Z Z.heap w_OFF_PEAK_ENERGY "com/example/tarcal/tarcal/schedules/Basis") (pr9 : Sta Z Z.heap "com/example/tarcal/tarcal/schedules/Basis" "BILLING_DEMAND_DAYS" "Lcom/example/tarcal/tarcal/schedules/Basis;" (.ref w_BILLING_DEMAND_DAYS)) (pr10 : Exa Z Z.heap w_BILLING_DEMAND_DAYS "com/example/tarcal/tarcal/schedules/Basis") (pr11 : Sta Z Z.heap "com/example/tarcal/tarcal/schedules/Basis" "METERED_DEMAND_DAYS" "Lcom/example/tarcal/tarcal/schedules/Basis;" (.ref w_METERED_DEMAND_DAYS)) (pr12 : Exa Z Z.heap w_METERED_DEMAND_DAYS "com/example/tarcal/tarcal/schedules/Basis") (pr13 : Sta Z Z.heap "com/example/tarcal/tarcal/schedules/Basis" "FIXTURE_DAYS" "Lcom/example/tarcal/tarcal/schedules/Basis;" (.ref w_FIXTURE_DAYS)) (pr14 : Exa Z Z.heap w_FIXTURE_DAYS "com/example/tarcal/tarcal/schedules/Basis") (pr15 : Sta Z Z.heap "com/example/tarcal/tarcal/schedules/Basis" "HIGHEST_HOUR_ENERGY" "Lcom/example/tarcal/tarcal/schedules/Basis;" (.ref w_HIGHEST_HOUR_ENERGY)) (pr16 : Exa Z Z.heap w_HIGHEST_HOUR_ENERGY "com/example/tarcal/tarcal/schedules/Basis") (pr17 : Sta Z Z.heap "com/example/tarcal/tarcal/schedules/Basis" "GAS_INDEXED_ENERGY" "Lcom/example/tarcal/tarcal/schedules/Basis;" (.ref w_GAS_INDEXED_ENERGY)) (pr18 : Exa Z Z.heap w_GAS_INDEXED_ENERGY "com/example/tarcal/tarcal/schedules/Basis") (pr19 : Sta Z Z.heap "com/example/tarcal/tarcal/schedules/Basis" "POOL_PRICED_ENERGY" "Lcom/example/tarcal/tarcal/schedules/Basis;" (.ref w_POOL_PRICED_ENERGY)) (pr20 : Exa Z Z.heap w_POOL_PRICED_ENERGY "com/example/tarcal/tarcal/schedules/Basis") (pr21 : Sta Z Z.heap "com/example/tarcal/tarcal/schedules/Basis" "ISO_COSTS" "Lcom/example/tarcal/tarcal/schedules/Basis;" (.ref w_ISO_COSTS)) (pr22 : Exa Z Z.heap w_ISO_COSTS "com/example/tarcal/tarcal/schedules/Basis") (pr23 : Sta Z Z.heap "com/example/tarcal/tarcal/schedules/Basis" "DISTRIBUTION_ACCESS_CHARGES" "Lcom/example/tarcal/tarcal/schedules/Basis;" (.ref w_DISTRIBUTION_ACCESS_CHARGES)) (pr24 : Exa Z Z.heap w_DISTRIBUTION_ACCESS_CHARGES "com/example/tarcal/tarcal/schedules/Basis") (pr25 : ((p1 &&& (2147483647 : Int32)) % (12 : Int32)) = (10 : Int32)) (pr26 : w_ISO_COSTS ≠ w_HIGHEST_HOUR_ENERGY) (pr27 : w_ISO_COSTS ≠ w_GAS_INDEXED_ENERGY) (pr28 : w_ISO_COSTS ≠ w_POOL_PRICED_ENERGY) :
    MetFree l x (head1 (Jvm.Cond.code x code maxLocals ret :: ws) room_1) (fun a U => a = #[(.int p1)] ∧ Z.Warmed39 U.vm ∧ U.heap = h0) (fun _ _ _ _ _ => True) (fun _ U o U' => ∃ v L, o = .returned v ∧ Q0 n0 v L ∧ FrameEnd U o U' L 16 128) := by
  refine MetFree.of_bodySF (plainFor_of_name pn_1) hisR ?_
  intro p e s m args below meth c s₁ Bd hml0 hP hK
  obtain ⟨rfl, hZ, hh⟩ := hP
  have hx := Bd.exec
  have hby := Bd.bytes
  have hml : c.maxLocals = 6 := hml0
  have hown : s.vm.findClass "com/example/tarcal/tarcal/schedules/BasisPerPeriodPinLaw" = some m.cls := findClass_of_methodNamed Bd.named
  have hnm := (name_of_methodNamed Bd.named Bd.method).1
  have X0 : Stand p l e room_1 s m #[(.int p1)] below meth c s₁ [] 0 0 := Stand.of_body Bd
  have e0 : s₁.heap = h0 := by rw [← hh, Bd.state]; rfl
  have N0 := Fr.nil n0
  have pre0 : ∀ t, Steps p.tables e below (s₁.setTop (mkF m 0 #[.val (.int p1), .unset, .unset, .unset, .unset, .unset] [])) t → Steps p.tables e below (s₁.setTop (entryFrame m #[(.int p1)] maxLocals)) t := fun t k => castTop (ef_0_1 m p1) k
  obtain ⟨T1, h1, k1, X1, e1, E1, A1, O1, st1⟩ := newR X0 hx hZ hown (wd0 hw) (wd1 hw) e0 (g := (mkF m 2 #[.val (.int p1), .unset, .unset, .unset, .unset, .unset] [(.int (12 : Int32))])) rfl (hb hby at_2) rfl (by decide) (cap := 12) (by decide) (by decide) (by decide) (by decide)
  obtain ⟨b1, g1⟩ : ∃ z, z = h0.size := ⟨_, rfl⟩
  rw [← g1] at A1 st1
  have V1 : Arv Z h1 b1 k1 (.object "com/example/tarcal/tarcal/schedules/Basis") (12 : Int32) [.null, .null, .null, .null, .null, .null, .null, .null, .null, .null, .null, .null] .null := (Arv.new A1 (by decide)).pad (pad_rep [] .null 12)
  have g_b1 : n0 ≤ b1 := (Nat.le_trans (Nat.le_trans (Nat.le_of_eq OL0.1.symm) OL0.2.1) (Nat.le_of_eq g1.symm))
  have sz_b1 : h0.size ≤ b1 := (Nat.le_trans (Keep.refl h0 []).1 (Nat.le_of_eq g1.symm))
  have KK1 : Keep h0 h1 [] := (Keep.refl h0 []).ext E1
  have OL1 := OL0.ext E1
  obtain ⟨T2, X2, e2, st2⟩ := getS2 X1 hx hZ hown (host := "") (Or.inl (wd2 hw)) Via.refl e1 (pr1.ext OL1.2) (g := (mkF m 7 #[.val (.int p1), .unset, .unset, .unset, .unset, .unset] [(.int (0 : Int32)), (.ref b1), (.ref b1)])) rfl (hb hby at_7)
  obtain ⟨cl3, Ar3, q3, S3, M3, Hs3, G3⟩ := V1
  have hin3 : ¬ ((0 : Int32) < 0 ∨ cl3.slots.size ≤ ((0 : Int32)).toNatClampNeg) := inb_of S3 ⟨by decide, by decide⟩
  obtain ⟨T4, h4, X4, e4, W4, st4⟩ := stR X2 hx hZ e2 Ar3 (j := (0 : Int32)) hin3 rfl (Sto.ofV Ar3 q3 O1 (Ins.self (pr2.ext OL1.2))) (g := (mkF m 10 #[.val (.int p1), .unset, .unset, .unset, .unset, .unset] [(.ref w_DAYS), (.int (0 : Int32)), (.ref b1), (.ref b1)])) rfl rfl (hb hby at_10)
  have V4 : Arv Z h4 b1 k1 (.object "com/example/tarcal/tarcal/schedules/Basis") (12 : Int32) [(.ref w_DAYS), .null, .null, .null, .null, .null, .null, .null, .null, .null, .null, .null] .null := Arv.set Ar3 q3 S3 M3 Hs3 G3 rfl W4 0 rfl (Nat.le_of_ble_eq_true rfl)
  have KK4 : Keep h0 h4 [] := KK1.wr W4 (Or.inr sz_b1)
  have OL4 := OL1.wr W4 g_b1
  have N4 := Fr.snoc X4 N0 g_b1
  obtain ⟨T5, X5, e5, st5⟩ := getS2 X4 hx hZ hown (host := "") (Or.inl (wd6 hw)) Via.refl e4 (pr3.ext OL4.2) (g := (mkF m 13 #[.val (.int p1), .unset, .unset, .unset, .unset, .unset] [(.int (1 : Int32)), (.ref b1), (.ref b1)])) rfl (hb hby at_13)
  obtain ⟨cl6, Ar6, q6, S6, M6, Hs6, G6⟩ := V4
  have hin6 : ¬ ((1 : Int32) < 0 ∨ cl6.slots.size ≤ ((1 : Int32)).toNatClampNeg) := inb_of S6 ⟨by decide, by decide⟩
  obtain ⟨T7, h7, X7, e7, W7, st7⟩ := stR X5 hx hZ e5 Ar6 (j := (1 : Int32)) hin6 rfl (Sto.ofV Ar6 q6 O1 (Ins.self (pr4.ext OL4.2))) (g := (mkF m 16 #[.val (.int p1), .unset, .unset, .unset, .unset, .unset] [(.ref w_ENERGY), (.int (1 : Int32)), (.ref b1), (.ref b1)])) rfl rfl (hb hby at_16)
  have V7 : Arv Z h7 b1 k1 (.object "com/example/tarcal/tarcal/schedules/Basis") (12 : Int32) [(.ref w_DAYS), (.ref w_ENERGY), .null, .null, .null, .null, .null, .null, .null, .null, .null, .null] .null := Arv.set Ar6 q6 S6 M6 Hs6 G6 rfl W7 1 rfl (Nat.le_of_ble_eq_true rfl)
  have KK7 : Keep h0 h7 [] := KK4.wr W7 (Or.inr sz_b1)
  have OL7 := OL4.wr W7 g_b1
  have N7 := Fr.snoc X7 N4 g_b1
  obtain ⟨T8, X8, e8, st8⟩ := getS2 X7 hx hZ hown (host := "") (Or.inl (wd8 hw)) Via.refl e7 (pr5.ext OL7.2) (g := (mkF m 19 #[.val (.int p1), .unset, .unset, .unset, .unset, .unset] [(.int (2 : Int32)), (.ref b1), (.ref b1)])) rfl (hb hby at_19)
  obtain ⟨cl9, Ar9, q9, S9, M9, Hs9, G9⟩ := V7
  have hin9 : ¬ ((2 : Int32) < 0 ∨ cl9.slots.size ≤ ((2 : Int32)).toNatClampNeg) := inb_of S9 ⟨by decide, by decide⟩
  obtain ⟨T10, h10, X10, e10, W10, st10⟩ := stR X8 hx hZ e8 Ar9 (j := (2 : Int32)) hin9 rfl (Sto.ofV Ar9 q9 O1 (Ins.self (pr6.ext OL7.2))) (g := (mkF m 22 #[.val (.int p1), .unset, .unset, .unset, .unset, .unset] [(.ref w_ON_PEAK_ENERGY), (.int (2 : Int32)), (.ref b1), (.ref b1)])) rfl rfl (hb hby at_22)
  have V10 : Arv Z h10 b1 k1 (.object "com/example/tarcal/tarcal/schedules/Basis") (12 : Int32) [(.ref w_DAYS), (.ref w_ENERGY), (.ref w_ON_PEAK_ENERGY), .null, .null, .null, .null, .null, .null, .null, .null, .null] .null := Arv.set Ar9 q9 S9 M9 Hs9 G9 rfl W10 2 rfl (Nat.le_of_ble_eq_true rfl)
  have KK10 : Keep h0 h10 [] := KK7.wr W10 (Or.inr sz_b1)
  have OL10 := OL7.wr W10 g_b1
  have N10 := Fr.snoc X10 N7 g_b1
  obtain ⟨T11, X11, e11, st11⟩ := getS2 X10 hx hZ hown (host := "") (Or.inl (wd10 hw)) Via.refl e10 (pr7.ext OL10.2) (g := (mkF m 25 #[.val (.int p1), .unset, .unset, .unset, .unset, .unset] [(.int (3 : Int32)), (.ref b1), (.ref b1)])) rfl (hb hby at_25)
  obtain ⟨cl12, Ar12, q12, S12, M12, Hs12, G12⟩ := V10
  have hin12 : ¬ ((3 : Int32) < 0 ∨ cl12.slots.size ≤ ((3 : Int32)).toNatClampNeg) := inb_of S12 ⟨by decide, by decide⟩
  obtain ⟨T13, h13, X13, e13, W13, st13⟩ := stR X11 hx hZ e11 Ar12 (j := (3 : Int32)) hin12 rfl (Sto.ofV Ar12 q12 O1 (Ins.self (pr8.ext OL10.2))) (g := (mkF m 28 #[.val (.int p1), .unset, .unset, .unset, .unset, .unset] [(.ref w_OFF_PEAK_ENERGY), (.int (3 : Int32)), (.ref b1), (.ref b1)])) rfl rfl (hb hby at_28)
  have V13 : Arv Z h13 b1 k1 (.object "com/example/tarcal/tarcal/schedules/Basis") (12 : Int32) [(.ref w_DAYS), (.ref w_ENERGY), (.ref w_ON_PEAK_ENERGY), (.ref w_OFF_PEAK_ENERGY), .null, .null, .null, .null, .null, .null, .null, .null] .null := Arv.set Ar12 q12 S12 M12 Hs12 G12 rfl W13 3 rfl (Nat.le_of_ble_eq_true rfl)
  have KK13 : Keep h0 h13 [] := KK10.wr W13 (Or.inr sz_b1)
  have OL13 := OL10.wr W13 g_b1
  have N13 := Fr.snoc X13 N10 g_b1
  obtain ⟨T14, X14, e14, st14⟩ := getS2 X13 hx hZ hown (host := "") (Or.inl (wd12 hw)) Via.refl e13 (pr9.ext OL13.2) (g := (mkF m 31 #[.val (.int p1), .unset, .unset, .unset, .unset, .unset] [(.int (4 : Int32)), (.ref b1), (.ref b1)])) rfl (hb hby at_31)
  obtain ⟨cl15, Ar15, q15, S15, M15, Hs15, G15⟩ := V13
  have hin15 : ¬ ((4 : Int32) < 0 ∨ cl15.slots.size ≤ ((4 : Int32)).toNatClampNeg) := inb_of S15 ⟨by decide, by decide⟩
  obtain ⟨T16, h16, X16, e16, W16, st16⟩ := stR X14 hx hZ e14 Ar15 (j := (4 : Int32)) hin15 rfl (Sto.ofV Ar15 q15 O1 (Ins.self (pr10.ext OL13.2))) (g := (mkF m 34 #[.val (.int p1), .unset, .unset, .unset, .unset, .unset] [(.ref w_BILLING_DEMAND_DAYS), (.int (4 : Int32)), (.ref b1), (.ref b1)])) rfl rfl (hb hby at_34)
  have V16 : Arv Z h16 b1 k1 (.object "com/example/tarcal/tarcal/schedules/Basis") (12 : Int32) [(.ref w_DAYS), (.ref w_ENERGY), (.ref w_ON_PEAK_ENERGY), (.ref w_OFF_PEAK_ENERGY), (.ref w_BILLING_DEMAND_DAYS), .null, .null, .null, .null, .null, .null, .null] .null := Arv.set Ar15 q15 S15 M15 Hs15 G15 rfl W16 4 rfl (Nat.le_of_ble_eq_true rfl)
  have KK16 : Keep h0 h16 [] := KK13.wr W16 (Or.inr sz_b1)
  have OL16 := OL13.wr W16 g_b1
  have N16 := Fr.snoc X16 N13 g_b1
  obtain ⟨T17, X17, e17, st17⟩ := getS2 X16 hx hZ hown (host := "") (Or.inl (wd14 hw)) Via.refl e16 (pr11.ext OL16.2) (g := (mkF m 37 #[.val (.int p1), .unset, .unset, .unset, .unset, .unset] [(.int (5 : Int32)), (.ref b1), (.ref b1)])) rfl (hb hby at_37)
  obtain ⟨cl18, Ar18, q18, S18, M18, Hs18, G18⟩ := V16
  have hin18 : ¬ ((5 : Int32) < 0 ∨ cl18.slots.size ≤ ((5 : Int32)).toNatClampNeg) := inb_of S18 ⟨by decide, by decide⟩
  obtain ⟨T19, h19, X19, e19, W19, st19⟩ := stR X17 hx hZ e17 Ar18 (j := (5 : Int32)) hin18 rfl (Sto.ofV Ar18 q18 O1 (Ins.self (pr12.ext OL16.2))) (g := (mkF m 40 #[.val (.int p1), .unset, .unset, .unset, .unset, .unset] [(.ref w_METERED_DEMAND_DAYS), (.int (5 : Int32)), (.ref b1), (.ref b1)])) rfl rfl (hb hby at_40)
  have V19 : Arv Z h19 b1 k1 (.object "com/example/tarcal/tarcal/schedules/Basis") (12 : Int32) [(.ref w_DAYS), (.ref w_ENERGY), (.ref w_ON_PEAK_ENERGY), (.ref w_OFF_PEAK_ENERGY), (.ref w_BILLING_DEMAND_DAYS), (.ref w_METERED_DEMAND_DAYS), .null, .null, .null, .null, .null, .null] .null := Arv.set Ar18 q18 S18 M18 Hs18 G18 rfl W19 5 rfl (Nat.le_of_ble_eq_true rfl)
  have KK19 : Keep h0 h19 [] := KK16.wr W19 (Or.inr sz_b1)
  have OL19 := OL16.wr W19 g_b1
  have N19 := Fr.snoc X19 N16 g_b1
  obtain ⟨T20, X20, e20, st20⟩ := getS2 X19 hx hZ hown (host := "") (Or.inl (wd16 hw)) Via.refl e19 (pr13.ext OL19.2) (g := (mkF m 44 #[.val (.int p1), .unset, .unset, .unset, .unset, .unset] [(.int (6 : Int32)), (.ref b1), (.ref b1)])) rfl (hb hby at_44)
  obtain ⟨cl21, Ar21, q21, S21, M21, Hs21, G21⟩ := V19
  have hin21 : ¬ ((6 : Int32) < 0 ∨ cl21.slots.size ≤ ((6 : Int32)).toNatClampNeg) := inb_of S21 ⟨by decide, by decide⟩
  obtain ⟨T22, h22, X22, e22, W22, st22⟩ := stR X20 hx hZ e20 Ar21 (j := (6 : Int32)) hin21 rfl (Sto.ofV Ar21 q21 O1 (Ins.self (pr14.ext OL19.2))) (g := (mkF m 47 #[.val (.int p1), .unset, .unset, .unset, .unset, .unset] [(.ref w_FIXTURE_DAYS), (.int (6 : Int32)), (.ref b1), (.ref b1)])) rfl rfl (hb hby at_47)
  have V22 : Arv Z h22 b1 k1 (.object "com/example/tarcal/tarcal/schedules/Basis") (12 : Int32) [(.ref w_DAYS), (.ref w_ENERGY), (.ref w_ON_PEAK_ENERGY), (.ref w_OFF_PEAK_ENERGY), (.ref w_BILLING_DEMAND_DAYS), (.ref w_METERED_DEMAND_DAYS), (.ref w_FIXTURE_DAYS), .null, .null, .null, .null, .null] .null := Arv.set Ar21 q21 S21 M21 Hs21 G21 rfl W22 6 rfl (Nat.le_of_ble_eq_true rfl)
  have KK22 : Keep h0 h22 [] := KK19.wr W22 (Or.inr sz_b1)
  have OL22 := OL19.wr W22 g_b1
  have N22 := Fr.snoc X22 N19 g_b1
  obtain ⟨T23, X23, e23, st23⟩ := getS2 X22 hx hZ hown (host := "") (Or.inl (wd18 hw)) Via.refl e22 (pr15.ext OL22.2) (g := (mkF m 51 #[.val (.int p1), .unset, .unset, .unset, .unset, .unset] [(.int (7 : Int32)), (.ref b1), (.ref b1)])) rfl (hb hby at_51)
  obtain ⟨cl24, Ar24, q24, S24, M24, Hs24, G24⟩ := V22
  have hin24 : ¬ ((7 : Int32) < 0 ∨ cl24.slots.size ≤ ((7 : Int32)).toNatClampNeg) := inb_of S24 ⟨by decide, by decide⟩
  obtain ⟨T25, h25, X25, e25, W25, st25⟩ := stR X23 hx hZ e23 Ar24 (j := (7 : Int32)) hin24 rfl (Sto.ofV Ar24 q24 O1 (Ins.self (pr16.ext OL22.2))) (g := (mkF m 54 #[.val (.int p1), .unset, .unset, .unset, .unset, .unset] [(.ref w_HIGHEST_HOUR_ENERGY), (.int (7 : Int32)), (.ref b1), (.ref b1)])) rfl rfl (hb hby at_54)
  have V25 : Arv Z h25 b1 k1 (.object "com/example/tarcal/tarcal/schedules/Basis") (12 : Int32) [(.ref w_DAYS), (.ref w_ENERGY), (.ref w_ON_PEAK_ENERGY), (.ref w_OFF_PEAK_ENERGY), (.ref w_BILLING_DEMAND_DAYS), (.ref w_METERED_DEMAND_DAYS), (.ref w_FIXTURE_DAYS), (.ref w_HIGHEST_HOUR_ENERGY), .null, .null, .null, .null] .null := Arv.set Ar24 q24 S24 M24 Hs24 G24 rfl W25 7 rfl (Nat.le_of_ble_eq_true rfl)
  have KK25 : Keep h0 h25 [] := KK22.wr W25 (Or.inr sz_b1)
  have OL25 := OL22.wr W25 g_b1
  have N25 := Fr.snoc X25 N22 g_b1
  obtain ⟨T26, X26, e26, st26⟩ := getS2 X25 hx hZ hown (host := "") (Or.inl (wd20 hw)) Via.refl e25 (pr17.ext OL25.2) (g := (mkF m 58 #[.val (.int p1), .unset, .unset, .unset, .unset, .unset] [(.int (8 : Int32)), (.ref b1), (.ref b1)])) rfl (hb hby at_58)
  obtain ⟨cl27, Ar27, q27, S27, M27, Hs27, G27⟩ := V25
  have hin27 : ¬ ((8 : Int32) < 0 ∨ cl27.slots.size ≤ ((8 : Int32)).toNatClampNeg) := inb_of S27 ⟨by decide, by decide⟩
  obtain ⟨T28, h28, X28, e28, W28, st28⟩ := stR X26 hx hZ e26 Ar27 (j := (8 : Int32)) hin27 rfl (Sto.ofV Ar27 q27 O1 (Ins.self (pr18.ext OL25.2))) (g := (mkF m 61 #[.val (.int p1), .unset, .unset, .unset, .unset, .unset] [(.ref w_GAS_INDEXED_ENERGY), (.int (8 : Int32)), (.ref b1), (.ref b1)])) rfl rfl (hb hby at_61)
  have V28 : Arv Z h28 b1 k1 (.object "com/example/tarcal/tarcal/schedules/Basis") (12 : Int32) [(.ref w_DAYS), (.ref w_ENERGY), (.ref w_ON_PEAK_ENERGY), (.ref w_OFF_PEAK_ENERGY), (.ref w_BILLING_DEMAND_DAYS), (.ref w_METERED_DEMAND_DAYS), (.ref w_FIXTURE_DAYS), (.ref w_HIGHEST_HOUR_ENERGY), (.ref w_GAS_INDEXED_ENERGY), .null, .null, .null] .null := Arv.set Ar27 q27 S27 M27 Hs27 G27 rfl W28 8 rfl (Nat.le_of_ble_eq_true rfl)
  have KK28 : Keep h0 h28 [] := KK25.wr W28 (Or.inr sz_b1)
  have OL28 := OL25.wr W28 g_b1
  have N28 := Fr.snoc X28 N25 g_b1
  obtain ⟨T29, X29, e29, st29⟩ := getS2 X28 hx hZ hown (host := "") (Or.inl (wd22 hw)) Via.refl e28 (pr19.ext OL28.2) (g := (mkF m 65 #[.val (.int p1), .unset, .unset, .unset, .unset, .unset] [(.int (9 : Int32)), (.ref b1), (.ref b1)])) rfl (hb hby at_65)
  obtain ⟨cl30, Ar30, q30, S30, M30, Hs30, G30⟩ := V28
  have hin30 : ¬ ((9 : Int32) < 0 ∨ cl30.slots.size ≤ ((9 : Int32)).toNatClampNeg) := inb_of S30 ⟨by decide, by decide⟩
  obtain ⟨T31, h31, X31, e31, W31, st31⟩ := stR X29 hx hZ e29 Ar30 (j := (9 : Int32)) hin30 rfl (Sto.ofV Ar30 q30 O1 (Ins.self (pr20.ext OL28.2))) (g := (mkF m 68 #[.val (.int p1), .unset, .unset, .unset, .unset, .unset] [(.ref w_POOL_PRICED_ENERGY), (.int (9 : Int32)), (.ref b1), (.ref b1)])) rfl rfl (hb hby at_68)
  have V31 : Arv Z h31 b1 k1 (.object "com/example/tarcal/tarcal/schedules/Basis") (12 : Int32) [(.ref w_DAYS), (.ref w_ENERGY), (.ref w_ON_PEAK_ENERGY), (.ref w_OFF_PEAK_ENERGY), (.ref w_BILLING_DEMAND_DAYS), (.ref w_METERED_DEMAND_DAYS), (.ref w_FIXTURE_DAYS), (.ref w_HIGHEST_HOUR_ENERGY), (.ref w_GAS_INDEXED_ENERGY), (.ref w_POOL_PRICED_ENERGY), .null, .null] .null := Arv.set Ar30 q30 S30 M30 Hs30 G30 rfl W31 9 rfl (Nat.le_of_ble_eq_true rfl)
  have KK31 : Keep h0 h31 [] := KK28.wr W31 (Or.inr sz_b1)
  have OL31 := OL28.wr W31 g_b1
  have N31 := Fr.snoc X31 N28 g_b1
  obtain ⟨T32, X32, e32, st32⟩ := getS2 X31 hx hZ hown (host := "") (Or.inl (wd24 hw)) Via.refl e31 (pr21.ext OL31.2) (g := (mkF m 72 #[.val (.int p1), .unset, .unset, .unset, .unset, .unset] [(.int (10 : Int32)), (.ref b1), (.ref b1)])) rfl (hb hby at_72)
  obtain ⟨cl33, Ar33, q33, S33, M33, Hs33, G33⟩ := V31
  have hin33 : ¬ ((10 : Int32) < 0 ∨ cl33.slots.size ≤ ((10 : Int32)).toNatClampNeg) := inb_of S33 ⟨by decide, by decide⟩
  obtain ⟨T34, h34, X34, e34, W34, st34⟩ := stR X32 hx hZ e32 Ar33 (j := (10 : Int32)) hin33 rfl (Sto.ofV Ar33 q33 O1 (Ins.self (pr22.ext OL31.2))) (g := (mkF m 75 #[.val (.int p1), .unset, .unset, .unset, .unset, .unset] [(.ref w_ISO_COSTS), (.int (10 : Int32)), (.ref b1), (.ref b1)])) rfl rfl (hb hby at_75)
  have V34 : Arv Z h34 b1 k1 (.object "com/example/tarcal/tarcal/schedules/Basis") (12 : Int32) [(.ref w_DAYS), (.ref w_ENERGY), (.ref w_ON_PEAK_ENERGY), (.ref w_OFF_PEAK_ENERGY), (.ref w_BILLING_DEMAND_DAYS), (.ref w_METERED_DEMAND_DAYS), (.ref w_FIXTURE_DAYS), (.ref w_HIGHEST_HOUR_ENERGY), (.ref w_GAS_INDEXED_ENERGY), (.ref w_POOL_PRICED_ENERGY), (.ref w_ISO_COSTS), .null] .null := Arv.set Ar33 q33 S33 M33 Hs33 G33 rfl W34 10 rfl (Nat.le_of_ble_eq_true rfl)
  have KK34 : Keep h0 h34 [] := KK31.wr W34 (Or.inr sz_b1)
  have OL34 := OL31.wr W34 g_b1
  have N34 := Fr.snoc X34 N31 g_b1
  obtain ⟨T35, X35, e35, st35⟩ := getS2 X34 hx hZ hown (host := "") (Or.inl (wd26 hw)) Via.refl e34 (pr23.ext OL34.2) (g := (mkF m 79 #[.val (.int p1), .unset, .unset, .unset, .unset, .unset] [(.int (11 : Int32)), (.ref b1), (.ref b1)])) rfl (hb hby at_79)
  obtain ⟨cl36, Ar36, q36, S36, M36, Hs36, G36⟩ := V34
  have hin36 : ¬ ((11 : Int32) < 0 ∨ cl36.slots.size ≤ ((11 : Int32)).toNatClampNeg) := inb_of S36 ⟨by decide, by decide⟩
  obtain ⟨T37, h37, X37, e37, W37, st37⟩ := stR X35 hx hZ e35 Ar36 (j := (11 : Int32)) hin36 rfl (Sto.ofV Ar36 q36 O1 (Ins.self (pr24.ext OL34.2))) (g := (mkF m 82 #[.val (.int p1), .unset, .unset, .unset, .unset, .unset] [(.ref w_DISTRIBUTION_ACCESS_CHARGES), (.int (11 : Int32)), (.ref b1), (.ref b1)])) rfl rfl (hb hby at_82)
  have V37 : Arv Z h37 b1 k1 (.object "com/example/tarcal/tarcal/schedules/Basis") (12 : Int32) [(.ref w_DAYS), (.ref w_ENERGY), (.ref w_ON_PEAK_ENERGY), (.ref w_OFF_PEAK_ENERGY), (.ref w_BILLING_DEMAND_DAYS), (.ref w_METERED_DEMAND_DAYS), (.ref w_FIXTURE_DAYS), (.ref w_HIGHEST_HOUR_ENERGY), (.ref w_GAS_INDEXED_ENERGY), (.ref w_POOL_PRICED_ENERGY), (.ref w_ISO_COSTS), (.ref w_DISTRIBUTION_ACCESS_CHARGES)] .null := Arv.set Ar36 q36 S36 M36 Hs36 G36 rfl W37 11 rfl (Nat.le_of_ble_eq_true rfl)
  have KK37 : Keep h0 h37 [] := KK34.wr W37 (Or.inr sz_b1)
  have OL37 := OL34.wr W37 g_b1
  have N37 := Fr.snoc X37 N34 g_b1
  obtain ⟨cl38, Ar38, -, S38, -, Hs38, -⟩ := V37
  have hin38 : ¬ ((10 : Int32) < 0 ∨ cl38.slots.size ≤ ((10 : Int32)).toNatClampNeg) := inb_of S38 ⟨by decide, by decide⟩
  have hat38 : cl38.slots[((10 : Int32)).toNatClampNeg]? = some (.ref w_ISO_COSTS) := Hs38.at hin38 rfl
  obtain ⟨cq39, kq39, q39a, q39b, q39c⟩ := isOf hZ e37 (pr22.ext OL37.2)
  obtain ⟨_, _, ⟨T39, L39, k39, n39⟩, -, X39, ⟨Lc39, hQ39, l39, y39, z39⟩, st39⟩ := X37.virtualBack hx (y := (⟨"com/example/tarcal/tarcal/schedules/Basis", "perPeriod", "()Z"⟩ : MethodName)) (z := (⟨"com/example/tarcal/tarcal/schedules/Basis", "perPeriod", "()Z"⟩ : MethodName)) hown (mvT hZ (wd29 hw)) (mvT hZ (wd30 hw)) (notFace_of_selects (args := #[]) (mvT hZ (wd32 hw))) (mvT hZ (wd32 hw)) (mvT hZ (wd31 hw)) (by decide) (backOf (W := 0) (rm1_0 l Z a0 hw [] w_ISO_COSTS w_HIGHEST_HOUR_ENERGY w_GAS_INDEXED_ENERGY w_POOL_PRICED_ENERGY h37 n0 OL37 pr15 pr26 pr17 pr27 pr19 pr28) hZ (wd33 hw) (wd3 hw) (by decide) (by decide)) q39a q39c (g := (mkF m 122 #[.val (.int p1), .val (.ref b1), .val (.int (10 : Int32)), .val (.ref w_ISO_COSTS), .val (.int (0 : Int32)), .unset] [(.ref w_ISO_COSTS)])) rfl (by rw [hml]; rfl) (Steps.refl _) (argsL := []) (rest := []) (lenOf pd_0 rfl) rfl (by show 2 * 0 + _ ≤ _; exact Nat.le_of_eq rfl) (hb hby at_122) (fun _ _ => ⟨rfl, e37, (by decide : 1 + 0 ≤ _), (by decide : 12 + 0 ≤ _)⟩)
  dsimp only [Pt.U, Pt.locs, Pt.cells, Pt.slots] at X39 l39 y39 z39 st39 hQ39
  subst l39 y39 z39
  obtain ⟨rfl, Nq39, ec39⟩ := hQ39
  have N39 := Fr.app N37 Nq39
  obtain ⟨fs, hr, hrun, hended, hW, hsame⟩ := X39.leave (v := some (.int (1 : Int32))) (fun h => by rw [Bd.returns] at h; cases h)
  refine ⟨_, _, pre0 _ ?_, hrun, hended, _, _, rfl, ?_, ⟨_, rfl⟩, hW, hsame.mono (by decide) (by decide)⟩
  · show Steps p.tables e below (s₁.setTop (mkF m 0 #[.val (.int p1), .unset, .unset, .unset, .unset, .unset] [])) _
    refine XS.bipush X0.here hx rfl (hb hby at_0) ?_
    show Steps p.tables e below (s₁.setTop (mkF m 2 #[.val (.int p1), .unset, .unset, .unset, .unset, .unset] [(.int (12 : Int32))])) _
    refine st1 _ ?_
    show Steps p.tables e below (T1.setTop (mkF m 5 #[.val (.int p1), .unset, .unset, .unset, .unset, .unset] [(.ref b1)])) _
    refine XS.dup X1.here hx rfl (hb hby at_5) rfl rfl ?_
    show Steps p.tables e below (T1.setTop (mkF m 6 #[.val (.int p1), .unset, .unset, .unset, .unset, .unset] [(.ref b1), (.ref b1)])) _
    refine XS.iconst X1.here hx rfl (hb hby at_6) ?_
    show Steps p.tables e below (T1.setTop (mkF m 7 #[.val (.int p1), .unset, .unset, .unset, .unset, .unset] [(.int (0 : Int32)), (.ref b1), (.ref b1)])) _
    refine st2 _ ?_
    show Steps p.tables e below (T2.setTop (mkF m 10 #[.val (.int p1), .unset, .unset, .unset, .unset, .unset] [(.ref w_DAYS), (.int (0 : Int32)), (.ref b1), (.ref b1)])) _
    refine st4 _ ?_
    show Steps p.tables e below (T4.setTop (mkF m 11 #[.val (.int p1), .unset, .unset, .unset, .unset, .unset] [(.ref b1)])) _
    refine XS.dup X4.here hx rfl (hb hby at_11) rfl rfl ?_
    show Steps p.tables e below (T4.setTop (mkF m 12 #[.val (.int p1), .unset, .unset, .unset, .unset, .unset] [(.ref b1), (.ref b1)])) _
    refine XS.iconst X4.here hx rfl (hb hby at_12) ?_
    show Steps p.tables e below (T4.setTop (mkF m 13 #[.val (.int p1), .unset, .unset, .unset, .unset, .unset] [(.int (1 : Int32)), (.ref b1), (.ref b1)])) _
    refine st5 _ ?_
    show Steps p.tables e below (T5.setTop (mkF m 16 #[.val (.int p1), .unset, .unset, .unset, .unset, .unset] [(.ref w_ENERGY), (.int (1 : Int32)), (.ref b1), (.ref b1)])) _
    refine st7 _ ?_
    show Steps p.tables e below (T7.setTop (mkF m 17 #[.val (.int p1), .unset, .unset, .unset, .unset, .unset] [(.ref b1)])) _
    refine XS.dup X7.here hx rfl (hb hby at_17) rfl rfl ?_
    show Steps p.tables e below (T7.setTop (mkF m 18 #[.val (.int p1), .unset, .unset, .unset, .unset, .unset] [(.ref b1), (.ref b1)])) _
    refine XS.iconst X7.here hx rfl (hb hby at_18) ?_
    show Steps p.tables e below (T7.setTop (mkF m 19 #[.val (.int p1), .unset, .unset, .unset, .unset, .unset] [(.int (2 : Int32)), (.ref b1), (.ref b1)])) _
    refine st8 _ ?_
    show Steps p.tables e below (T8.setTop (mkF m 22 #[.val (.int p1), .unset, .unset, .unset, .unset, .unset] [(.ref w_ON_PEAK_ENERGY), (.int (2 : Int32)), (.ref b1), (.ref b1)])) _
    refine st10 _ ?_
    show Steps p.tables e below (T10.setTop (mkF m 23 #[.val (.int p1), .unset, .unset, .unset, .unset, .unset] [(.ref b1)])) _
    refine XS.dup X10.here hx rfl (hb hby at_23) rfl rfl ?_
    show Steps p.tables e below (T10.setTop (mkF m 24 #[.val (.int p1), .unset, .unset, .unset, .unset, .unset] [(.ref b1), (.ref b1)])) _
    refine XS.iconst X10.here hx rfl (hb hby at_24) ?_
    show Steps p.tables e below (T10.setTop (mkF m 25 #[.val (.int p1), .unset, .unset, .unset, .unset, .unset] [(.int (3 : Int32)), (.ref b1), (.ref b1)])) _
    refine st11 _ ?_
    show Steps p.tables e below (T11.setTop (mkF m 28 #[.val (.int p1), .unset, .unset, .unset, .unset, .unset] [(.ref w_OFF_PEAK_ENERGY), (.int (3 : Int32)), (.ref b1), (.ref b1)])) _
    refine st13 _ ?_
    show Steps p.tables e below (T13.setTop (mkF m 29 #[.val (.int p1), .unset, .unset, .unset, .unset, .unset] [(.ref b1)])) _
    refine XS.dup X13.here hx rfl (hb hby at_29) rfl rfl ?_
    show Steps p.tables e below (T13.setTop (mkF m 30 #[.val (.int p1), .unset, .unset, .unset, .unset, .unset] [(.ref b1), (.ref b1)])) _
    refine XS.iconst X13.here hx rfl (hb hby at_30) ?_
    show Steps p.tables e below (T13.setTop (mkF m 31 #[.val (.int p1), .unset, .unset, .unset, .unset, .unset] [(.int (4 : Int32)), (.ref b1), (.ref b1)])) _
    refine st14 _ ?_
    show Steps p.tables e below (T14.setTop (mkF m 34 #[.val (.int p1), .unset, .unset, .unset, .unset, .unset] [(.ref w_BILLING_DEMAND_DAYS), (.int (4 : Int32)), (.ref b1), (.ref b1)])) _
    refine st16 _ ?_
    show Steps p.tables e below (T16.setTop (mkF m 35 #[.val (.int p1), .unset, .unset, .unset, .unset, .unset] [(.ref b1)])) _
    refine XS.dup X16.here hx rfl (hb hby at_35) rfl rfl ?_
    show Steps p.tables e below (T16.setTop (mkF m 36 #[.val (.int p1), .unset, .unset, .unset, .unset, .unset] [(.ref b1), (.ref b1)])) _
    refine XS.iconst X16.here hx rfl (hb hby at_36) ?_
    show Steps p.tables e below (T16.setTop (mkF m 37 #[.val (.int p1), .unset, .unset, .unset, .unset, .unset] [(.int (5 : Int32)), (.ref b1), (.ref b1)])) _
    refine st17 _ ?_
    show Steps p.tables e below (T17.setTop (mkF m 40 #[.val (.int p1), .unset, .unset, .unset, .unset, .unset] [(.ref w_METERED_DEMAND_DAYS), (.int (5 : Int32)), (.ref b1), (.ref b1)])) _
    refine st19 _ ?_
    show Steps p.tables e below (T19.setTop (mkF m 41 #[.val (.int p1), .unset, .unset, .unset, .unset, .unset] [(.ref b1)])) _
    refine XS.dup X19.here hx rfl (hb hby at_41) rfl rfl ?_
    show Steps p.tables e below (T19.setTop (mkF m 42 #[.val (.int p1), .unset, .unset, .unset, .unset, .unset] [(.ref b1), (.ref b1)])) _
    refine XS.bipush X19.here hx rfl (hb hby at_42) ?_
    show Steps p.tables e below (T19.setTop (mkF m 44 #[.val (.int p1), .unset, .unset, .unset, .unset, .unset] [(.int (6 : Int32)), (.ref b1), (.ref b1)])) _
    refine st20 _ ?_
    show Steps p.tables e below (T20.setTop (mkF m 47 #[.val (.int p1), .unset, .unset, .unset, .unset, .unset] [(.ref w_FIXTURE_DAYS), (.int (6 : Int32)), (.ref b1), (.ref b1)])) _
    refine st22 _ ?_
    show Steps p.tables e below (T22.setTop (mkF m 48 #[.val (.int p1), .unset, .unset, .unset, .unset, .unset] [(.ref b1)])) _
    refine XS.dup X22.here hx rfl (hb hby at_48) rfl rfl ?_
    show Steps p.tables e below (T22.setTop (mkF m 49 #[.val (.int p1), .unset, .unset, .unset, .unset, .unset] [(.ref b1), (.ref b1)])) _
    refine XS.bipush X22.here hx rfl (hb hby at_49) ?_
    show Steps p.tables e below (T22.setTop (mkF m 51 #[.val (.int p1), .unset, .unset, .unset, .unset, .unset] [(.int (7 : Int32)), (.ref b1), (.ref b1)])) _
    refine st23 _ ?_
    show Steps p.tables e below (T23.setTop (mkF m 54 #[.val (.int p1), .unset, .unset, .unset, .unset, .unset] [(.ref w_HIGHEST_HOUR_ENERGY), (.int (7 : Int32)), (.ref b1), (.ref b1)])) _
    refine st25 _ ?_
    show Steps p.tables e below (T25.setTop (mkF m 55 #[.val (.int p1), .unset, .unset, .unset, .unset, .unset] [(.ref b1)])) _
    refine XS.dup X25.here hx rfl (hb hby at_55) rfl rfl ?_
    show Steps p.tables e below (T25.setTop (mkF m 56 #[.val (.int p1), .unset, .unset, .unset, .unset, .unset] [(.ref b1), (.ref b1)])) _
    refine XS.bipush X25.here hx rfl (hb hby at_56) ?_
    show Steps p.tables e below (T25.setTop (mkF m 58 #[.val (.int p1), .unset, .unset, .unset, .unset, .unset] [(.int (8 : Int32)), (.ref b1), (.ref b1)])) _
    refine st26 _ ?_
    show Steps p.tables e below (T26.setTop (mkF m 61 #[.val (.int p1), .unset, .unset, .unset, .unset, .unset] [(.ref w_GAS_INDEXED_ENERGY), (.int (8 : Int32)), (.ref b1), (.ref b1)])) _
    refine st28 _ ?_
    show Steps p.tables e below (T28.setTop (mkF m 62 #[.val (.int p1), .unset, .unset, .unset, .unset, .unset] [(.ref b1)])) _
    refine XS.dup X28.here hx rfl (hb hby at_62) rfl rfl ?_
    show Steps p.tables e below (T28.setTop (mkF m 63 #[.val (.int p1), .unset, .unset, .unset, .unset, .unset] [(.ref b1), (.ref b1)])) _
    refine XS.bipush X28.here hx rfl (hb hby at_63) ?_
    show Steps p.tables e below (T28.setTop (mkF m 65 #[.val (.int p1), .unset, .unset, .unset, .unset, .unset] [(.int (9 : Int32)), (.ref b1), (.ref b1)])) _
    refine st29 _ ?_
    show Steps p.tables e below (T29.setTop (mkF m 68 #[.val (.int p1), .unset, .unset, .unset, .unset, .unset] [(.ref w_POOL_PRICED_ENERGY), (.int (9 : Int32)), (.ref b1), (.ref b1)])) _
    refine st31 _ ?_
    show Steps p.tables e below (T31.setTop (mkF m 69 #[.val (.int p1), .unset, .unset, .unset, .unset, .unset] [(.ref b1)])) _
    refine XS.dup X31.here hx rfl (hb hby at_69) rfl rfl ?_
    show Steps p.tables e below (T31.setTop (mkF m 70 #[.val (.int p1), .unset, .unset, .unset, .unset, .unset] [(.ref b1), (.ref b1)])) _
    refine XS.bipush X31.here hx rfl (hb hby at_70) ?_
    show Steps p.tables e below (T31.setTop (mkF m 72 #[.val (.int p1), .unset, .unset, .unset, .unset, .unset] [(.int (10 : Int32)), (.ref b1), (.ref b1)])) _
    refine st32 _ ?_
    show Steps p.tables e below (T32.setTop (mkF m 75 #[.val (.int p1), .unset, .unset, .unset, .unset, .unset] [(.ref w_ISO_COSTS), (.int (10 : Int32)), (.ref b1), (.ref b1)])) _
    refine st34 _ ?_
    show Steps p.tables e below (T34.setTop (mkF m 76 #[.val (.int p1), .unset, .unset, .unset, .unset, .unset] [(.ref b1)])) _
    refine XS.dup X34.here hx rfl (hb hby at_76) rfl rfl ?_
    show Steps p.tables e below (T34.setTop (mkF m 77 #[.val (.int p1), .unset, .unset, .unset, .unset, .unset] [(.ref b1), (.ref b1)])) _
    refine XS.bipush X34.here hx rfl (hb hby at_77) ?_
    show Steps p.tables e below (T34.setTop (mkF m 79 #[.val (.int p1), .unset, .unset, .unset, .unset, .unset] [(.int (11 : Int32)), (.ref b1), (.ref b1)])) _
    refine st35 _ ?_
    show Steps p.tables e below (T35.setTop (mkF m 82 #[.val (.int p1), .unset, .unset, .unset, .unset, .unset] [(.ref w_DISTRIBUTION_ACCESS_CHARGES), (.int (11 : Int32)), (.ref b1), (.ref b1)])) _
    refine st37 _ ?_
    show Steps p.tables e below (T37.setTop (mkF m 83 #[.val (.int p1), .unset, .unset, .unset, .unset, .unset] [(.ref b1)])) _
    refine XS.astoreN X37.here hx rfl (hb hby at_83) rfl rfl (l' := #[.val (.int p1), .val (.ref b1), .unset, .unset, .unset, .unset]) rfl ?_
    show Steps p.tables e below (T37.setTop (mkF m 84 #[.val (.int p1), .val (.ref b1), .unset, .unset, .unset, .unset] [])) _
    refine XS.iloadN X37.here hx rfl (hb hby at_84) rfl ?_
    show Steps p.tables e below (T37.setTop (mkF m 85 #[.val (.int p1), .val (.ref b1), .unset, .unset, .unset, .unset] [(.int p1)])) _
    refine X37.ldcInt hx hown (mvT hZ (wd28 hw)) (g := (mkF m 85 #[.val (.int p1), .val (.ref b1), .unset, .unset, .unset, .unset] [(.int p1)])) rfl (hb hby at_85) _ ?_
    show Steps p.tables e below (T37.setTop (mkF m 87 #[.val (.int p1), .val (.ref b1), .unset, .unset, .unset, .unset] [(.int (2147483647 : Int32)), (.int p1)])) _
    refine XS.iand X37.here hx rfl (hb hby at_87) rfl ?_
    show Steps p.tables e below (T37.setTop (mkF m 88 #[.val (.int p1), .val (.ref b1), .unset, .unset, .unset, .unset] [(.int (p1 &&& (2147483647 : Int32)))])) _
    refine XS.bipush X37.here hx rfl (hb hby at_88) ?_
    show Steps p.tables e below (T37.setTop (mkF m 90 #[.val (.int p1), .val (.ref b1), .unset, .unset, .unset, .unset] [(.int (12 : Int32)), (.int (p1 &&& (2147483647 : Int32)))])) _
    refine iremM X37 hx rfl (hb hby at_90) rfl (by decide) ?_
    show Steps p.tables e below (T37.setTop (mkF m 91 #[.val (.int p1), .val (.ref b1), .unset, .unset, .unset, .unset] [(.int ((p1 &&& (2147483647 : Int32)) % (12 : Int32)))])) _
    rw [pr25]
    show Steps p.tables e below (T37.setTop (mkF m 91 #[.val (.int p1), .val (.ref b1), .unset, .unset, .unset, .unset] [(.int (10 : Int32))])) _
    refine XS.istoreN X37.here hx rfl (hb hby at_91) rfl (l' := #[.val (.int p1), .val (.ref b1), .val (.int (10 : Int32)), .unset, .unset, .unset]) rfl ?_
    show Steps p.tables e below (T37.setTop (mkF m 92 #[.val (.int p1), .val (.ref b1), .val (.int (10 : Int32)), .unset, .unset, .unset] [])) _
    refine XS.aloadN X37.here hx rfl (hb hby at_92) rfl rfl ?_
    show Steps p.tables e below (T37.setTop (mkF m 93 #[.val (.int p1), .val (.ref b1), .val (.int (10 : Int32)), .unset, .unset, .unset] [(.ref b1)])) _
    refine XS.iloadN X37.here hx rfl (hb hby at_93) rfl ?_
    show Steps p.tables e below (T37.setTop (mkF m 94 #[.val (.int p1), .val (.ref b1), .val (.int (10 : Int32)), .unset, .unset, .unset] [(.int (10 : Int32)), (.ref b1)])) _
    refine X37.aaload hx (j := (10 : Int32)) (v := (.ref w_ISO_COSTS)) (by rw [e37]; exact Ar38.1) (State.isArrayOf_alike hZ.alike Ar38.2.1) rfl Ar38.2.2 hin38 hat38 (g := (mkF m 94 #[.val (.int p1), .val (.ref b1), .val (.int (10 : Int32)), .unset, .unset, .unset] [(.int (10 : Int32)), (.ref b1)])) rfl rfl (hb hby at_94) _ ?_
    show Steps p.tables e below (T37.setTop (mkF m 95 #[.val (.int p1), .val (.ref b1), .val (.int (10 : Int32)), .unset, .unset, .unset] [(.ref w_ISO_COSTS)])) _
    refine XS.astoreN X37.here hx rfl (hb hby at_95) rfl rfl (l' := #[.val (.int p1), .val (.ref b1), .val (.int (10 : Int32)), .val (.ref w_ISO_COSTS), .unset, .unset]) rfl ?_
    show Steps p.tables e below (T37.setTop (mkF m 96 #[.val (.int p1), .val (.ref b1), .val (.int (10 : Int32)), .val (.ref w_ISO_COSTS), .unset, .unset] [])) _
    refine XS.iloadN X37.here hx rfl (hb hby at_96) rfl ?_
    show Steps p.tables e below (T37.setTop (mkF m 97 #[.val (.int p1), .val (.ref b1), .val (.int (10 : Int32)), .val (.ref w_ISO_COSTS), .unset, .unset] [(.int (10 : Int32))])) _
    refine XS.bipush X37.here hx rfl (hb hby at_97) ?_
    show Steps p.tables e below (T37.setTop (mkF m 99 #[.val (.int p1), .val (.ref b1), .val (.int (10 : Int32)), .val (.ref w_ISO_COSTS), .unset, .unset] [(.int (7 : Int32)), (.int (10 : Int32))])) _
    refine XS.icmpNo X37.here hx rfl (hb hby at_99) rfl (feq (by decide : ¬ ((10 : Int32) = (7 : Int32)))).1 ?_
    show Steps p.tables e below (T37.setTop (mkF m 102 #[.val (.int p1), .val (.ref b1), .val (.int (10 : Int32)), .val (.ref w_ISO_COSTS), .unset, .unset] [])) _
    refine XS.iloadN X37.here hx rfl (hb hby at_102) rfl ?_
    show Steps p.tables e below (T37.setTop (mkF m 103 #[.val (.int p1), .val (.ref b1), .val (.int (10 : Int32)), .val (.ref w_ISO_COSTS), .unset, .unset] [(.int (10 : Int32))])) _
    refine XS.bipush X37.here hx rfl (hb hby at_103) ?_
    show Steps p.tables e below (T37.setTop (mkF m 105 #[.val (.int p1), .val (.ref b1), .val (.int (10 : Int32)), .val (.ref w_ISO_COSTS), .unset, .unset] [(.int (8 : Int32)), (.int (10 : Int32))])) _
    refine XS.icmpNo X37.here hx rfl (hb hby at_105) rfl (feq (by decide : ¬ ((10 : Int32) = (8 : Int32)))).1 ?_
    show Steps p.tables e below (T37.setTop (mkF m 108 #[.val (.int p1), .val (.ref b1), .val (.int (10 : Int32)), .val (.ref w_ISO_COSTS), .unset, .unset] [])) _
    refine XS.iloadN X37.here hx rfl (hb hby at_108) rfl ?_
    show Steps p.tables e below (T37.setTop (mkF m 109 #[.val (.int p1), .val (.ref b1), .val (.int (10 : Int32)), .val (.ref w_ISO_COSTS), .unset, .unset] [(.int (10 : Int32))])) _
    refine XS.bipush X37.here hx rfl (hb hby at_109) ?_
    show Steps p.tables e below (T37.setTop (mkF m 111 #[.val (.int p1), .val (.ref b1), .val (.int (10 : Int32)), .val (.ref w_ISO_COSTS), .unset, .unset] [(.int (9 : Int32)), (.int (10 : Int32))])) _
    refine XS.icmpYes X37.here hx rfl (pc0 := 111) (pc' := 118) rfl (hb hby at_111) rfl (feq (by decide : ¬ ((10 : Int32) = (9 : Int32)))).2 (by decide) (by decide) ?_
    show Steps p.tables e below (T37.setTop (mkF m 118 #[.val (.int p1), .val (.ref b1), .val (.int (10 : Int32)), .val (.ref w_ISO_COSTS), .unset, .unset] [])) _
    refine XS.iconst X37.here hx rfl (hb hby at_118) ?_
    show Steps p.tables e below (T37.setTop (mkF m 119 #[.val (.int p1), .val (.ref b1), .val (.int (10 : Int32)), .val (.ref w_ISO_COSTS), .unset, .unset] [(.int (0 : Int32))])) _
    refine XS.istore X37.here hx rfl (hb hby at_119) rfl (l' := #[.val (.int p1), .val (.ref b1), .val (.int (10 : Int32)), .val (.ref w_ISO_COSTS), .val (.int (0 : Int32)), .unset]) rfl ?_
    show Steps p.tables e below (T37.setTop (mkF m 121 #[.val (.int p1), .val (.ref b1), .val (.int (10 : Int32)), .val (.ref w_ISO_COSTS), .val (.int (0 : Int32)), .unset] [])) _
    refine XS.aloadN X37.here hx rfl (hb hby at_121) rfl rfl ?_
    show Steps p.tables e below (T37.setTop (mkF m 122 #[.val (.int p1), .val (.ref b1), .val (.int (10 : Int32)), .val (.ref w_ISO_COSTS), .val (.int (0 : Int32)), .unset] [(.ref w_ISO_COSTS)])) _
    refine st39.trans ?_
    show Steps p.tables e below (T39.setTop (mkF m 125 #[.val (.int p1), .val (.ref b1), .val (.int (10 : Int32)), .val (.ref w_ISO_COSTS), .val (.int (0 : Int32)), .unset] [(.int (0 : Int32))])) _
    refine XS.istore X39.here hx rfl (hb hby at_125) rfl (l' := #[.val (.int p1), .val (.ref b1), .val (.int (10 : Int32)), .val (.ref w_ISO_COSTS), .val (.int (0 : Int32)), .val (.int (0 : Int32))]) rfl ?_
    show Steps p.tables e below (T39.setTop (mkF m 127 #[.val (.int p1), .val (.ref b1), .val (.int (10 : Int32)), .val (.ref w_ISO_COSTS), .val (.int (0 : Int32)), .val (.int (0 : Int32))] [])) _
    refine XS.iload X39.here hx rfl (hb hby at_127) rfl ?_
    show Steps p.tables e below (T39.setTop (mkF m 129 #[.val (.int p1), .val (.ref b1), .val (.int (10 : Int32)), .val (.ref w_ISO_COSTS), .val (.int (0 : Int32)), .val (.int (0 : Int32))] [(.int (0 : Int32))])) _
    refine XS.iload X39.here hx rfl (hb hby at_129) rfl ?_
    show Steps p.tables e below (T39.setTop (mkF m 131 #[.val (.int p1), .val (.ref b1), .val (.int (10 : Int32)), .val (.ref w_ISO_COSTS), .val (.int (0 : Int32)), .val (.int (0 : Int32))] [(.int (0 : Int32)), (.int (0 : Int32))])) _
    refine XS.icmpYes X39.here hx rfl (pc0 := 131) (pc' := 136) rfl (hb hby at_131) rfl (teq (rfl : (0 : Int32) = (0 : Int32))).1 (by decide) (by decide) ?_
    show Steps p.tables e below (T39.setTop (mkF m 136 #[.val (.int p1), .val (.ref b1), .val (.int (10 : Int32)), .val (.ref w_ISO_COSTS), .val (.int (0 : Int32)), .val (.int (0 : Int32))] [])) _
    refine XS.iload X39.here hx rfl (hb hby at_136) rfl ?_
    show Steps p.tables e below (T39.setTop (mkF m 138 #[.val (.int p1), .val (.ref b1), .val (.int (10 : Int32)), .val (.ref w_ISO_COSTS), .val (.int (0 : Int32)), .val (.int (0 : Int32))] [(.int (0 : Int32))])) _
    refine XS.ifYes X39.here hx rfl (pc0 := 138) (pc' := 164) rfl (hb hby at_138) rfl ((if0 _ _).trans (teq (rfl : (0 : Int32) = (0 : Int32))).1) (by decide) (by decide) ?_
    show Steps p.tables e below (T39.setTop (mkF m 164 #[.val (.int p1), .val (.ref b1), .val (.int (10 : Int32)), .val (.ref w_ISO_COSTS), .val (.int (0 : Int32)), .val (.int (0 : Int32))] [])) _
    refine XS.iconst X39.here hx rfl (hb hby at_164) ?_
    show Steps p.tables e below (T39.setTop (mkF m 165 #[.val (.int p1), .val (.ref b1), .val (.int (10 : Int32)), .val (.ref w_ISO_COSTS), .val (.int (0 : Int32)), .val (.int (0 : Int32))] [(.int (1 : Int32))])) _
    exact retN X39 hx (t := .boolean) Bd.returns (by simp) (hb hby at_165) hr
  · exact ⟨rfl, N39⟩
set_option maxRecDepth 65536 in
set_option maxHeartbeats 40000000 in
theorem rm0_11 (l : Launch) (Z : State) (a0 : Array Value) (hw : ∀ d ∈ tables_1, d.before a0 Z = true) (ws : List Jvm.Cond) (p1 : Int32) (w_DAYS : Addr) (w_ENERGY : Addr) (w_ON_PEAK_ENERGY : Addr) (w_OFF_PEAK_ENERGY : Addr) (w_BILLING_DEMAND_DAYS : Addr) (w_METERED_DEMAND_DAYS : Addr) (w_FIXTURE_DAYS : Addr) (w_HIGHEST_HOUR_ENERGY : Addr) (w_GAS_INDEXED_ENERGY : Addr) (w_POOL_PRICED_ENERGY : Addr) (w_ISO_COSTS : Addr) (w_DISTRIBUTION_ACCESS_CHARGES : Addr) (h0 : Heap) (n0 : Nat) (OL0 : Old Z n0 h0) (pr1 : Sta Z Z.heap "com/example/tarcal/tarcal/schedules/Basis" "DAYS" "Lcom/example/tarcal/tarcal/schedules/Basis;" (.ref w_DAYS)) (pr2 : Exa Z Z.heap w_DAYS "com/example/tarcal/tarcal/schedules/Basis") (pr3 : Sta Z Z.heap "com/example/tarcal/tarcal/schedules/Basis" "ENERGY" "Lcom/example/tarcal/tarcal/schedules/Basis;" (.ref w_ENERGY)) (pr4 : Exa Z Z.heap w_ENERGY "com/example/tarcal/tarcal/schedules/Basis") (pr5 : Sta Z Z.heap "com/example/tarcal/tarcal/schedules/Basis" "ON_PEAK_ENERGY" "Lcom/example/tarcal/tarcal/schedules/Basis;" (.ref w_ON_PEAK_ENERGY)) (pr6 : Exa Z Z.heap w_ON_PEAK_ENERGY "com/example/tarcal/tarcal/schedules/Basis") (pr7 : Sta Z Z.heap "com/example/tarcal/tarcal/schedules/Basis" "OFF_PEAK_ENERGY" "Lcom/example/tarcal/tarcal/schedules/Basis;" (.ref w_OFF_PEAK_ENERGY)) (pr8 : Exa Z Z.heap w_OFF_PEAK_ENERGY "com/example/tarcal/tarcal/schedules/Basis") (pr9 : Sta Z Z.heap "com/example/tarcal/tarcal/schedules/Basis" "BILLING_DEMAND_DAYS" "Lcom/example/tarcal/tarcal/schedules/Basis;" (.ref w_BILLING_DEMAND_DAYS)) (pr10 : Exa Z Z.heap w_BILLING_DEMAND_DAYS "com/example/tarcal/tarcal/schedules/Basis") (pr11 : Sta Z Z.heap "com/example/tarcal/tarcal/schedules/Basis" "METERED_DEMAND_DAYS" "Lcom/example/tarcal/tarcal/schedules/Basis;" (.ref w_METERED_DEMAND_DAYS)) (pr12 : Exa Z Z.heap w_METERED_DEMAND_DAYS "com/example/tarcal/tarcal/schedules/Basis") (pr13 : Sta Z Z.heap "com/example/tarcal/tarcal/schedules/Basis" "FIXTURE_DAYS" "Lcom/example/tarcal/tarcal/schedules/Basis;" (.ref w_FIXTURE_DAYS)) (pr14 : Exa Z Z.heap w_FIXTURE_DAYS "com/example/tarcal/tarcal/schedules/Basis") (pr15 : Sta Z Z.heap "com/example/tarcal/tarcal/schedules/Basis" "HIGHEST_HOUR_ENERGY" "Lcom/example/tarcal/tarcal/schedules/Basis;" (.ref w_HIGHEST_HOUR_ENERGY)) (pr16 : Exa Z Z.heap w_HIGHEST_HOUR_ENERGY "com/example/tarcal/tarcal/schedules/Basis") (pr17 : Sta Z Z.heap "com/example/tarcal/tarcal/schedules/Basis" "GAS_INDEXED_ENERGY" "Lcom/example/tarcal/tarcal/schedules/Basis;" (.ref w_GAS_INDEXED_ENERGY)) (pr18 : Exa Z Z.heap w_GAS_INDEXED_ENERGY "com/example/tarcal/tarcal/schedules/Basis") (pr19 : Sta Z Z.heap "com/example/tarcal/tarcal/schedules/Basis" "POOL_PRICED_ENERGY" "Lcom/example/tarcal/tarcal/schedules/Basis;" (.ref w_POOL_PRICED_ENERGY)) (pr20 : Exa Z Z.heap w_POOL_PRICED_ENERGY "com/example/tarcal/tarcal/schedules/Basis") (pr21 : Sta Z Z.heap "com/example/tarcal/tarcal/schedules/Basis" "ISO_COSTS" "Lcom/example/tarcal/tarcal/schedules/Basis;" (.ref w_ISO_COSTS)) (pr22 : Exa Z Z.heap w_ISO_COSTS "com/example/tarcal/tarcal/schedules/Basis") (pr23 : Sta Z Z.heap "com/example/tarcal/tarcal/schedules/Basis" "DISTRIBUTION_ACCESS_CHARGES" "Lcom/example/tarcal/tarcal/schedules/Basis;" (.ref w_DISTRIBUTION_ACCESS_CHARGES)) (pr24 : Exa Z Z.heap w_DISTRIBUTION_ACCESS_CHARGES "com/example/tarcal/tarcal/schedules/Basis") (pr25 : ((p1 &&& (2147483647 : Int32)) % (12 : Int32)) = (11 : Int32)) (pr26 : w_DISTRIBUTION_ACCESS_CHARGES ≠ w_HIGHEST_HOUR_ENERGY) (pr27 : w_DISTRIBUTION_ACCESS_CHARGES ≠ w_GAS_INDEXED_ENERGY) (pr28 : w_DISTRIBUTION_ACCESS_CHARGES ≠ w_POOL_PRICED_ENERGY) :
    MetFree l x (head1 (Jvm.Cond.code x code maxLocals ret :: ws) room_1) (fun a U => a = #[(.int p1)] ∧ Z.Warmed39 U.vm ∧ U.heap = h0) (fun _ _ _ _ _ => True) (fun _ U o U' => ∃ v L, o = .returned v ∧ Q0 n0 v L ∧ FrameEnd U o U' L 16 128) := by
  refine MetFree.of_bodySF (plainFor_of_name pn_1) hisR ?_
  intro p e s m args below meth c s₁ Bd hml0 hP hK
  obtain ⟨rfl, hZ, hh⟩ := hP
  have hx := Bd.exec
  have hby := Bd.bytes
  have hml : c.maxLocals = 6 := hml0
  have hown : s.vm.findClass "com/example/tarcal/tarcal/schedules/BasisPerPeriodPinLaw" = some m.cls := findClass_of_methodNamed Bd.named
  have hnm := (name_of_methodNamed Bd.named Bd.method).1
  have X0 : Stand p l e room_1 s m #[(.int p1)] below meth c s₁ [] 0 0 := Stand.of_body Bd
  have e0 : s₁.heap = h0 := by rw [← hh, Bd.state]; rfl
  have N0 := Fr.nil n0
  have pre0 : ∀ t, Steps p.tables e below (s₁.setTop (mkF m 0 #[.val (.int p1), .unset, .unset, .unset, .unset, .unset] [])) t → Steps p.tables e below (s₁.setTop (entryFrame m #[(.int p1)] maxLocals)) t := fun t k => castTop (ef_0_1 m p1) k
  obtain ⟨T1, h1, k1, X1, e1, E1, A1, O1, st1⟩ := newR X0 hx hZ hown (wd0 hw) (wd1 hw) e0 (g := (mkF m 2 #[.val (.int p1), .unset, .unset, .unset, .unset, .unset] [(.int (12 : Int32))])) rfl (hb hby at_2) rfl (by decide) (cap := 12) (by decide) (by decide) (by decide) (by decide)
  obtain ⟨b1, g1⟩ : ∃ z, z = h0.size := ⟨_, rfl⟩
  rw [← g1] at A1 st1
  have V1 : Arv Z h1 b1 k1 (.object "com/example/tarcal/tarcal/schedules/Basis") (12 : Int32) [.null, .null, .null, .null, .null, .null, .null, .null, .null, .null, .null, .null] .null := (Arv.new A1 (by decide)).pad (pad_rep [] .null 12)
  have g_b1 : n0 ≤ b1 := (Nat.le_trans (Nat.le_trans (Nat.le_of_eq OL0.1.symm) OL0.2.1) (Nat.le_of_eq g1.symm))
  have sz_b1 : h0.size ≤ b1 := (Nat.le_trans (Keep.refl h0 []).1 (Nat.le_of_eq g1.symm))
  have KK1 : Keep h0 h1 [] := (Keep.refl h0 []).ext E1
  have OL1 := OL0.ext E1
  obtain ⟨T2, X2, e2, st2⟩ := getS2 X1 hx hZ hown (host := "") (Or.inl (wd2 hw)) Via.refl e1 (pr1.ext OL1.2) (g := (mkF m 7 #[.val (.int p1), .unset, .unset, .unset, .unset, .unset] [(.int (0 : Int32)), (.ref b1), (.ref b1)])) rfl (hb hby at_7)
  obtain ⟨cl3, Ar3, q3, S3, M3, Hs3, G3⟩ := V1
  have hin3 : ¬ ((0 : Int32) < 0 ∨ cl3.slots.size ≤ ((0 : Int32)).toNatClampNeg) := inb_of S3 ⟨by decide, by decide⟩
  obtain ⟨T4, h4, X4, e4, W4, st4⟩ := stR X2 hx hZ e2 Ar3 (j := (0 : Int32)) hin3 rfl (Sto.ofV Ar3 q3 O1 (Ins.self (pr2.ext OL1.2))) (g := (mkF m 10 #[.val (.int p1), .unset, .unset, .unset, .unset, .unset] [(.ref w_DAYS), (.int (0 : Int32)), (.ref b1), (.ref b1)])) rfl rfl (hb hby at_10)
  have V4 : Arv Z h4 b1 k1 (.object "com/example/tarcal/tarcal/schedules/Basis") (12 : Int32) [(.ref w_DAYS), .null, .null, .null, .null, .null, .null, .null, .null, .null, .null, .null] .null := Arv.set Ar3 q3 S3 M3 Hs3 G3 rfl W4 0 rfl (Nat.le_of_ble_eq_true rfl)
  have KK4 : Keep h0 h4 [] := KK1.wr W4 (Or.inr sz_b1)
  have OL4 := OL1.wr W4 g_b1
  have N4 := Fr.snoc X4 N0 g_b1
  obtain ⟨T5, X5, e5, st5⟩ := getS2 X4 hx hZ hown (host := "") (Or.inl (wd6 hw)) Via.refl e4 (pr3.ext OL4.2) (g := (mkF m 13 #[.val (.int p1), .unset, .unset, .unset, .unset, .unset] [(.int (1 : Int32)), (.ref b1), (.ref b1)])) rfl (hb hby at_13)
  obtain ⟨cl6, Ar6, q6, S6, M6, Hs6, G6⟩ := V4
  have hin6 : ¬ ((1 : Int32) < 0 ∨ cl6.slots.size ≤ ((1 : Int32)).toNatClampNeg) := inb_of S6 ⟨by decide, by decide⟩
  obtain ⟨T7, h7, X7, e7, W7, st7⟩ := stR X5 hx hZ e5 Ar6 (j := (1 : Int32)) hin6 rfl (Sto.ofV Ar6 q6 O1 (Ins.self (pr4.ext OL4.2))) (g := (mkF m 16 #[.val (.int p1), .unset, .unset, .unset, .unset, .unset] [(.ref w_ENERGY), (.int (1 : Int32)), (.ref b1), (.ref b1)])) rfl rfl (hb hby at_16)
  have V7 : Arv Z h7 b1 k1 (.object "com/example/tarcal/tarcal/schedules/Basis") (12 : Int32) [(.ref w_DAYS), (.ref w_ENERGY), .null, .null, .null, .null, .null, .null, .null, .null, .null, .null] .null := Arv.set Ar6 q6 S6 M6 Hs6 G6 rfl W7 1 rfl (Nat.le_of_ble_eq_true rfl)
  have KK7 : Keep h0 h7 [] := KK4.wr W7 (Or.inr sz_b1)
  have OL7 := OL4.wr W7 g_b1
  have N7 := Fr.snoc X7 N4 g_b1
  obtain ⟨T8, X8, e8, st8⟩ := getS2 X7 hx hZ hown (host := "") (Or.inl (wd8 hw)) Via.refl e7 (pr5.ext OL7.2) (g := (mkF m 19 #[.val (.int p1), .unset, .unset, .unset, .unset, .unset] [(.int (2 : Int32)), (.ref b1), (.ref b1)])) rfl (hb hby at_19)
  obtain ⟨cl9, Ar9, q9, S9, M9, Hs9, G9⟩ := V7
  have hin9 : ¬ ((2 : Int32) < 0 ∨ cl9.slots.size ≤ ((2 : Int32)).toNatClampNeg) := inb_of S9 ⟨by decide, by decide⟩
  obtain ⟨T10, h10, X10, e10, W10, st10⟩ := stR X8 hx hZ e8 Ar9 (j := (2 : Int32)) hin9 rfl (Sto.ofV Ar9 q9 O1 (Ins.self (pr6.ext OL7.2))) (g := (mkF m 22 #[.val (.int p1), .unset, .unset, .unset, .unset, .unset] [(.ref w_ON_PEAK_ENERGY), (.int (2 : Int32)), (.ref b1), (.ref b1)])) rfl rfl (hb hby at_22)
  have V10 : Arv Z h10 b1 k1 (.object "com/example/tarcal/tarcal/schedules/Basis") (12 : Int32) [(.ref w_DAYS), (.ref w_ENERGY), (.ref w_ON_PEAK_ENERGY), .null, .null, .null, .null, .null, .null, .null, .null, .null] .null := Arv.set Ar9 q9 S9 M9 Hs9 G9 rfl W10 2 rfl (Nat.le_of_ble_eq_true rfl)
  have KK10 : Keep h0 h10 [] := KK7.wr W10 (Or.inr sz_b1)
  have OL10 := OL7.wr W10 g_b1
  have N10 := Fr.snoc X10 N7 g_b1
  obtain ⟨T11, X11, e11, st11⟩ := getS2 X10 hx hZ hown (host := "") (Or.inl (wd10 hw)) Via.refl e10 (pr7.ext OL10.2) (g := (mkF m 25 #[.val (.int p1), .unset, .unset, .unset, .unset, .unset] [(.int (3 : Int32)), (.ref b1), (.ref b1)])) rfl (hb hby at_25)
  obtain ⟨cl12, Ar12, q12, S12, M12, Hs12, G12⟩ := V10
  have hin12 : ¬ ((3 : Int32) < 0 ∨ cl12.slots.size ≤ ((3 : Int32)).toNatClampNeg) := inb_of S12 ⟨by decide, by decide⟩
  obtain ⟨T13, h13, X13, e13, W13, st13⟩ := stR X11 hx hZ e11 Ar12 (j := (3 : Int32)) hin12 rfl (Sto.ofV Ar12 q12 O1 (Ins.self (pr8.ext OL10.2))) (g := (mkF m 28 #[.val (.int p1), .unset, .unset, .unset, .unset, .unset] [(.ref w_OFF_PEAK_ENERGY), (.int (3 : Int32)), (.ref b1), (.ref b1)])) rfl rfl (hb hby at_28)
  have V13 : Arv Z h13 b1 k1 (.object "com/example/tarcal/tarcal/schedules/Basis") (12 : Int32) [(.ref w_DAYS), (.ref w_ENERGY), (.ref w_ON_PEAK_ENERGY), (.ref w_OFF_PEAK_ENERGY), .null, .null, .null, .null, .null, .null, .null, .null] .null := Arv.set Ar12 q12 S12 M12 Hs12 G12 rfl W13 3 rfl (Nat.le_of_ble_eq_true rfl)
  have KK13 : Keep h0 h13 [] := KK10.wr W13 (Or.inr sz_b1)
  have OL13 := OL10.wr W13 g_b1
  have N13 := Fr.snoc X13 N10 g_b1
  obtain ⟨T14, X14, e14, st14⟩ := getS2 X13 hx hZ hown (host := "") (Or.inl (wd12 hw)) Via.refl e13 (pr9.ext OL13.2) (g := (mkF m 31 #[.val (.int p1), .unset, .unset, .unset, .unset, .unset] [(.int (4 : Int32)), (.ref b1), (.ref b1)])) rfl (hb hby at_31)
  obtain ⟨cl15, Ar15, q15, S15, M15, Hs15, G15⟩ := V13
  have hin15 : ¬ ((4 : Int32) < 0 ∨ cl15.slots.size ≤ ((4 : Int32)).toNatClampNeg) := inb_of S15 ⟨by decide, by decide⟩
  obtain ⟨T16, h16, X16, e16, W16, st16⟩ := stR X14 hx hZ e14 Ar15 (j := (4 : Int32)) hin15 rfl (Sto.ofV Ar15 q15 O1 (Ins.self (pr10.ext OL13.2))) (g := (mkF m 34 #[.val (.int p1), .unset, .unset, .unset, .unset, .unset] [(.ref w_BILLING_DEMAND_DAYS), (.int (4 : Int32)), (.ref b1), (.ref b1)])) rfl rfl (hb hby at_34)
  have V16 : Arv Z h16 b1 k1 (.object "com/example/tarcal/tarcal/schedules/Basis") (12 : Int32) [(.ref w_DAYS), (.ref w_ENERGY), (.ref w_ON_PEAK_ENERGY), (.ref w_OFF_PEAK_ENERGY), (.ref w_BILLING_DEMAND_DAYS), .null, .null, .null, .null, .null, .null, .null] .null := Arv.set Ar15 q15 S15 M15 Hs15 G15 rfl W16 4 rfl (Nat.le_of_ble_eq_true rfl)
  have KK16 : Keep h0 h16 [] := KK13.wr W16 (Or.inr sz_b1)
  have OL16 := OL13.wr W16 g_b1
  have N16 := Fr.snoc X16 N13 g_b1
  obtain ⟨T17, X17, e17, st17⟩ := getS2 X16 hx hZ hown (host := "") (Or.inl (wd14 hw)) Via.refl e16 (pr11.ext OL16.2) (g := (mkF m 37 #[.val (.int p1), .unset, .unset, .unset, .unset, .unset] [(.int (5 : Int32)), (.ref b1), (.ref b1)])) rfl (hb hby at_37)
  obtain ⟨cl18, Ar18, q18, S18, M18, Hs18, G18⟩ := V16
  have hin18 : ¬ ((5 : Int32) < 0 ∨ cl18.slots.size ≤ ((5 : Int32)).toNatClampNeg) := inb_of S18 ⟨by decide, by decide⟩
  obtain ⟨T19, h19, X19, e19, W19, st19⟩ := stR X17 hx hZ e17 Ar18 (j := (5 : Int32)) hin18 rfl (Sto.ofV Ar18 q18 O1 (Ins.self (pr12.ext OL16.2))) (g := (mkF m 40 #[.val (.int p1), .unset, .unset, .unset, .unset, .unset] [(.ref w_METERED_DEMAND_DAYS), (.int (5 : Int32)), (.ref b1), (.ref b1)])) rfl rfl (hb hby at_40)
  have V19 : Arv Z h19 b1 k1 (.object "com/example/tarcal/tarcal/schedules/Basis") (12 : Int32) [(.ref w_DAYS), (.ref w_ENERGY), (.ref w_ON_PEAK_ENERGY), (.ref w_OFF_PEAK_ENERGY), (.ref w_BILLING_DEMAND_DAYS), (.ref w_METERED_DEMAND_DAYS), .null, .null, .null, .null, .null, .null] .null := Arv.set Ar18 q18 S18 M18 Hs18 G18 rfl W19 5 rfl (Nat.le_of_ble_eq_true rfl)
  have KK19 : Keep h0 h19 [] := KK16.wr W19 (Or.inr sz_b1)
  have OL19 := OL16.wr W19 g_b1
  have N19 := Fr.snoc X19 N16 g_b1
  obtain ⟨T20, X20, e20, st20⟩ := getS2 X19 hx hZ hown (host := "") (Or.inl (wd16 hw)) Via.refl e19 (pr13.ext OL19.2) (g := (mkF m 44 #[.val (.int p1), .unset, .unset, .unset, .unset, .unset] [(.int (6 : Int32)), (.ref b1), (.ref b1)])) rfl (hb hby at_44)
  obtain ⟨cl21, Ar21, q21, S21, M21, Hs21, G21⟩ := V19
  have hin21 : ¬ ((6 : Int32) < 0 ∨ cl21.slots.size ≤ ((6 : Int32)).toNatClampNeg) := inb_of S21 ⟨by decide, by decide⟩
  obtain ⟨T22, h22, X22, e22, W22, st22⟩ := stR X20 hx hZ e20 Ar21 (j := (6 : Int32)) hin21 rfl (Sto.ofV Ar21 q21 O1 (Ins.self (pr14.ext OL19.2))) (g := (mkF m 47 #[.val (.int p1), .unset, .unset, .unset, .unset, .unset] [(.ref w_FIXTURE_DAYS), (.int (6 : Int32)), (.ref b1), (.ref b1)])) rfl rfl (hb hby at_47)
  have V22 : Arv Z h22 b1 k1 (.object "com/example/tarcal/tarcal/schedules/Basis") (12 : Int32) [(.ref w_DAYS), (.ref w_ENERGY), (.ref w_ON_PEAK_ENERGY), (.ref w_OFF_PEAK_ENERGY), (.ref w_BILLING_DEMAND_DAYS), (.ref w_METERED_DEMAND_DAYS), (.ref w_FIXTURE_DAYS), .null, .null, .null, .null, .null] .null := Arv.set Ar21 q21 S21 M21 Hs21 G21 rfl W22 6 rfl (Nat.le_of_ble_eq_true rfl)
  have KK22 : Keep h0 h22 [] := KK19.wr W22 (Or.inr sz_b1)
  have OL22 := OL19.wr W22 g_b1
  have N22 := Fr.snoc X22 N19 g_b1
  obtain ⟨T23, X23, e23, st23⟩ := getS2 X22 hx hZ hown (host := "") (Or.inl (wd18 hw)) Via.refl e22 (pr15.ext OL22.2) (g := (mkF m 51 #[.val (.int p1), .unset, .unset, .unset, .unset, .unset] [(.int (7 : Int32)), (.ref b1), (.ref b1)])) rfl (hb hby at_51)
  obtain ⟨cl24, Ar24, q24, S24, M24, Hs24, G24⟩ := V22
  have hin24 : ¬ ((7 : Int32) < 0 ∨ cl24.slots.size ≤ ((7 : Int32)).toNatClampNeg) := inb_of S24 ⟨by decide, by decide⟩
  obtain ⟨T25, h25, X25, e25, W25, st25⟩ := stR X23 hx hZ e23 Ar24 (j := (7 : Int32)) hin24 rfl (Sto.ofV Ar24 q24 O1 (Ins.self (pr16.ext OL22.2))) (g := (mkF m 54 #[.val (.int p1), .unset, .unset, .unset, .unset, .unset] [(.ref w_HIGHEST_HOUR_ENERGY), (.int (7 : Int32)), (.ref b1), (.ref b1)])) rfl rfl (hb hby at_54)
  have V25 : Arv Z h25 b1 k1 (.object "com/example/tarcal/tarcal/schedules/Basis") (12 : Int32) [(.ref w_DAYS), (.ref w_ENERGY), (.ref w_ON_PEAK_ENERGY), (.ref w_OFF_PEAK_ENERGY), (.ref w_BILLING_DEMAND_DAYS), (.ref w_METERED_DEMAND_DAYS), (.ref w_FIXTURE_DAYS), (.ref w_HIGHEST_HOUR_ENERGY), .null, .null, .null, .null] .null := Arv.set Ar24 q24 S24 M24 Hs24 G24 rfl W25 7 rfl (Nat.le_of_ble_eq_true rfl)
  have KK25 : Keep h0 h25 [] := KK22.wr W25 (Or.inr sz_b1)
  have OL25 := OL22.wr W25 g_b1
  have N25 := Fr.snoc X25 N22 g_b1
  obtain ⟨T26, X26, e26, st26⟩ := getS2 X25 hx hZ hown (host := "") (Or.inl (wd20 hw)) Via.refl e25 (pr17.ext OL25.2) (g := (mkF m 58 #[.val (.int p1), .unset, .unset, .unset, .unset, .unset] [(.int (8 : Int32)), (.ref b1), (.ref b1)])) rfl (hb hby at_58)
  obtain ⟨cl27, Ar27, q27, S27, M27, Hs27, G27⟩ := V25
  have hin27 : ¬ ((8 : Int32) < 0 ∨ cl27.slots.size ≤ ((8 : Int32)).toNatClampNeg) := inb_of S27 ⟨by decide, by decide⟩
  obtain ⟨T28, h28, X28, e28, W28, st28⟩ := stR X26 hx hZ e26 Ar27 (j := (8 : Int32)) hin27 rfl (Sto.ofV Ar27 q27 O1 (Ins.self (pr18.ext OL25.2))) (g := (mkF m 61 #[.val (.int p1), .unset, .unset, .unset, .unset, .unset] [(.ref w_GAS_INDEXED_ENERGY), (.int (8 : Int32)), (.ref b1), (.ref b1)])) rfl rfl (hb hby at_61)
  have V28 : Arv Z h28 b1 k1 (.object "com/example/tarcal/tarcal/schedules/Basis") (12 : Int32) [(.ref w_DAYS), (.ref w_ENERGY), (.ref w_ON_PEAK_ENERGY), (.ref w_OFF_PEAK_ENERGY), (.ref w_BILLING_DEMAND_DAYS), (.ref w_METERED_DEMAND_DAYS), (.ref w_FIXTURE_DAYS), (.ref w_HIGHEST_HOUR_ENERGY), (.ref w_GAS_INDEXED_ENERGY), .null, .null, .null] .null := Arv.set Ar27 q27 S27 M27 Hs27 G27 rfl W28 8 rfl (Nat.le_of_ble_eq_true rfl)
  have KK28 : Keep h0 h28 [] := KK25.wr W28 (Or.inr sz_b1)
  have OL28 := OL25.wr W28 g_b1
  have N28 := Fr.snoc X28 N25 g_b1
  obtain ⟨T29, X29, e29, st29⟩ := getS2 X28 hx hZ hown (host := "") (Or.inl (wd22 hw)) Via.refl e28 (pr19.ext OL28.2) (g := (mkF m 65 #[.val (.int p1), .unset, .unset, .unset, .unset, .unset] [(.int (9 : Int32)), (.ref b1), (.ref b1)])) rfl (hb hby at_65)
  obtain ⟨cl30, Ar30, q30, S30, M30, Hs30, G30⟩ := V28
  have hin30 : ¬ ((9 : Int32) < 0 ∨ cl30.slots.size ≤ ((9 : Int32)).toNatClampNeg) := inb_of S30 ⟨by decide, by decide⟩
  obtain ⟨T31, h31, X31, e31, W31, st31⟩ := stR X29 hx hZ e29 Ar30 (j := (9 : Int32)) hin30 rfl (Sto.ofV Ar30 q30 O1 (Ins.self (pr20.ext OL28.2))) (g := (mkF m 68 #[.val (.int p1), .unset, .unset, .unset, .unset, .unset] [(.ref w_POOL_PRICED_ENERGY), (.int (9 : Int32)), (.ref b1), (.ref b1)])) rfl rfl (hb hby at_68)
  have V31 : Arv Z h31 b1 k1 (.object "com/example/tarcal/tarcal/schedules/Basis") (12 : Int32) [(.ref w_DAYS), (.ref w_ENERGY), (.ref w_ON_PEAK_ENERGY), (.ref w_OFF_PEAK_ENERGY), (.ref w_BILLING_DEMAND_DAYS), (.ref w_METERED_DEMAND_DAYS), (.ref w_FIXTURE_DAYS), (.ref w_HIGHEST_HOUR_ENERGY), (.ref w_GAS_INDEXED_ENERGY), (.ref w_POOL_PRICED_ENERGY), .null, .null] .null := Arv.set Ar30 q30 S30 M30 Hs30 G30 rfl W31 9 rfl (Nat.le_of_ble_eq_true rfl)
  have KK31 : Keep h0 h31 [] := KK28.wr W31 (Or.inr sz_b1)
  have OL31 := OL28.wr W31 g_b1
  have N31 := Fr.snoc X31 N28 g_b1
  obtain ⟨T32, X32, e32, st32⟩ := getS2 X31 hx hZ hown (host := "") (Or.inl (wd24 hw)) Via.refl e31 (pr21.ext OL31.2) (g := (mkF m 72 #[.val (.int p1), .unset, .unset, .unset, .unset, .unset] [(.int (10 : Int32)), (.ref b1), (.ref b1)])) rfl (hb hby at_72)
  obtain ⟨cl33, Ar33, q33, S33, M33, Hs33, G33⟩ := V31
  have hin33 : ¬ ((10 : Int32) < 0 ∨ cl33.slots.size ≤ ((10 : Int32)).toNatClampNeg) := inb_of S33 ⟨by decide, by decide⟩
  obtain ⟨T34, h34, X34, e34, W34, st34⟩ := stR X32 hx hZ e32 Ar33 (j := (10 : Int32)) hin33 rfl (Sto.ofV Ar33 q33 O1 (Ins.self (pr22.ext OL31.2))) (g := (mkF m 75 #[.val (.int p1), .unset, .unset, .unset, .unset, .unset] [(.ref w_ISO_COSTS), (.int (10 : Int32)), (.ref b1), (.ref b1)])) rfl rfl (hb hby at_75)
  have V34 : Arv Z h34 b1 k1 (.object "com/example/tarcal/tarcal/schedules/Basis") (12 : Int32) [(.ref w_DAYS), (.ref w_ENERGY), (.ref w_ON_PEAK_ENERGY), (.ref w_OFF_PEAK_ENERGY), (.ref w_BILLING_DEMAND_DAYS), (.ref w_METERED_DEMAND_DAYS), (.ref w_FIXTURE_DAYS), (.ref w_HIGHEST_HOUR_ENERGY), (.ref w_GAS_INDEXED_ENERGY), (.ref w_POOL_PRICED_ENERGY), (.ref w_ISO_COSTS), .null] .null := Arv.set Ar33 q33 S33 M33 Hs33 G33 rfl W34 10 rfl (Nat.le_of_ble_eq_true rfl)
  have KK34 : Keep h0 h34 [] := KK31.wr W34 (Or.inr sz_b1)
  have OL34 := OL31.wr W34 g_b1
  have N34 := Fr.snoc X34 N31 g_b1
  obtain ⟨T35, X35, e35, st35⟩ := getS2 X34 hx hZ hown (host := "") (Or.inl (wd26 hw)) Via.refl e34 (pr23.ext OL34.2) (g := (mkF m 79 #[.val (.int p1), .unset, .unset, .unset, .unset, .unset] [(.int (11 : Int32)), (.ref b1), (.ref b1)])) rfl (hb hby at_79)
  obtain ⟨cl36, Ar36, q36, S36, M36, Hs36, G36⟩ := V34
  have hin36 : ¬ ((11 : Int32) < 0 ∨ cl36.slots.size ≤ ((11 : Int32)).toNatClampNeg) := inb_of S36 ⟨by decide, by decide⟩
  obtain ⟨T37, h37, X37, e37, W37, st37⟩ := stR X35 hx hZ e35 Ar36 (j := (11 : Int32)) hin36 rfl (Sto.ofV Ar36 q36 O1 (Ins.self (pr24.ext OL34.2))) (g := (mkF m 82 #[.val (.int p1), .unset, .unset, .unset, .unset, .unset] [(.ref w_DISTRIBUTION_ACCESS_CHARGES), (.int (11 : Int32)), (.ref b1), (.ref b1)])) rfl rfl (hb hby at_82)
  have V37 : Arv Z h37 b1 k1 (.object "com/example/tarcal/tarcal/schedules/Basis") (12 : Int32) [(.ref w_DAYS), (.ref w_ENERGY), (.ref w_ON_PEAK_ENERGY), (.ref w_OFF_PEAK_ENERGY), (.ref w_BILLING_DEMAND_DAYS), (.ref w_METERED_DEMAND_DAYS), (.ref w_FIXTURE_DAYS), (.ref w_HIGHEST_HOUR_ENERGY), (.ref w_GAS_INDEXED_ENERGY), (.ref w_POOL_PRICED_ENERGY), (.ref w_ISO_COSTS), (.ref w_DISTRIBUTION_ACCESS_CHARGES)] .null := Arv.set Ar36 q36 S36 M36 Hs36 G36 rfl W37 11 rfl (Nat.le_of_ble_eq_true rfl)
  have KK37 : Keep h0 h37 [] := KK34.wr W37 (Or.inr sz_b1)
  have OL37 := OL34.wr W37 g_b1
  have N37 := Fr.snoc X37 N34 g_b1
  obtain ⟨cl38, Ar38, -, S38, -, Hs38, -⟩ := V37
  have hin38 : ¬ ((11 : Int32) < 0 ∨ cl38.slots.size ≤ ((11 : Int32)).toNatClampNeg) := inb_of S38 ⟨by decide, by decide⟩
  have hat38 : cl38.slots[((11 : Int32)).toNatClampNeg]? = some (.ref w_DISTRIBUTION_ACCESS_CHARGES) := Hs38.at hin38 rfl
  obtain ⟨cq39, kq39, q39a, q39b, q39c⟩ := isOf hZ e37 (pr24.ext OL37.2)
  obtain ⟨_, _, ⟨T39, L39, k39, n39⟩, -, X39, ⟨Lc39, hQ39, l39, y39, z39⟩, st39⟩ := X37.virtualBack hx (y := (⟨"com/example/tarcal/tarcal/schedules/Basis", "perPeriod", "()Z"⟩ : MethodName)) (z := (⟨"com/example/tarcal/tarcal/schedules/Basis", "perPeriod", "()Z"⟩ : MethodName)) hown (mvT hZ (wd29 hw)) (mvT hZ (wd30 hw)) (notFace_of_selects (args := #[]) (mvT hZ (wd32 hw))) (mvT hZ (wd32 hw)) (mvT hZ (wd31 hw)) (by decide) (backOf (W := 0) (rm1_0 l Z a0 hw [] w_DISTRIBUTION_ACCESS_CHARGES w_HIGHEST_HOUR_ENERGY w_GAS_INDEXED_ENERGY w_POOL_PRICED_ENERGY h37 n0 OL37 pr15 pr26 pr17 pr27 pr19 pr28) hZ (wd33 hw) (wd3 hw) (by decide) (by decide)) q39a q39c (g := (mkF m 122 #[.val (.int p1), .val (.ref b1), .val (.int (11 : Int32)), .val (.ref w_DISTRIBUTION_ACCESS_CHARGES), .val (.int (0 : Int32)), .unset] [(.ref w_DISTRIBUTION_ACCESS_CHARGES)])) rfl (by rw [hml]; rfl) (Steps.refl _) (argsL := []) (rest := []) (lenOf pd_0 rfl) rfl (by show 2 * 0 + _ ≤ _; exact Nat.le_of_eq rfl) (hb hby at_122) (fun _ _ => ⟨rfl, e37, (by decide : 1 + 0 ≤ _), (by decide : 12 + 0 ≤ _)⟩)
  dsimp only [Pt.U, Pt.locs, Pt.cells, Pt.slots] at X39 l39 y39 z39 st39 hQ39
  subst l39 y39 z39
  obtain ⟨rfl, Nq39, ec39⟩ := hQ39
  have N39 := Fr.app N37 Nq39
  obtain ⟨fs, hr, hrun, hended, hW, hsame⟩ := X39.leave (v := some (.int (1 : Int32))) (fun h => by rw [Bd.returns] at h; cases h)
  refine ⟨_, _, pre0 _ ?_, hrun, hended, _, _, rfl, ?_, ⟨_, rfl⟩, hW, hsame.mono (by decide) (by decide)⟩
  · show Steps p.tables e below (s₁.setTop (mkF m 0 #[.val (.int p1), .unset, .unset, .unset, .unset, .unset] [])) _
    refine XS.bipush X0.here hx rfl (hb hby at_0) ?_
    show Steps p.tables e below (s₁.setTop (mkF m 2 #[.val (.int p1), .unset, .unset, .unset, .unset, .unset] [(.int (12 : Int32))])) _
    refine st1 _ ?_
    show Steps p.tables e below (T1.setTop (mkF m 5 #[.val (.int p1), .unset, .unset, .unset, .unset, .unset] [(.ref b1)])) _
    refine XS.dup X1.here hx rfl (hb hby at_5) rfl rfl ?_
    show Steps p.tables e below (T1.setTop (mkF m 6 #[.val (.int p1), .unset, .unset, .unset, .unset, .unset] [(.ref b1), (.ref b1)])) _
    refine XS.iconst X1.here hx rfl (hb hby at_6) ?_
    show Steps p.tables e below (T1.setTop (mkF m 7 #[.val (.int p1), .unset, .unset, .unset, .unset, .unset] [(.int (0 : Int32)), (.ref b1), (.ref b1)])) _
    refine st2 _ ?_
    show Steps p.tables e below (T2.setTop (mkF m 10 #[.val (.int p1), .unset, .unset, .unset, .unset, .unset] [(.ref w_DAYS), (.int (0 : Int32)), (.ref b1), (.ref b1)])) _
    refine st4 _ ?_
    show Steps p.tables e below (T4.setTop (mkF m 11 #[.val (.int p1), .unset, .unset, .unset, .unset, .unset] [(.ref b1)])) _
    refine XS.dup X4.here hx rfl (hb hby at_11) rfl rfl ?_
    show Steps p.tables e below (T4.setTop (mkF m 12 #[.val (.int p1), .unset, .unset, .unset, .unset, .unset] [(.ref b1), (.ref b1)])) _
    refine XS.iconst X4.here hx rfl (hb hby at_12) ?_
    show Steps p.tables e below (T4.setTop (mkF m 13 #[.val (.int p1), .unset, .unset, .unset, .unset, .unset] [(.int (1 : Int32)), (.ref b1), (.ref b1)])) _
    refine st5 _ ?_
    show Steps p.tables e below (T5.setTop (mkF m 16 #[.val (.int p1), .unset, .unset, .unset, .unset, .unset] [(.ref w_ENERGY), (.int (1 : Int32)), (.ref b1), (.ref b1)])) _
    refine st7 _ ?_
    show Steps p.tables e below (T7.setTop (mkF m 17 #[.val (.int p1), .unset, .unset, .unset, .unset, .unset] [(.ref b1)])) _
    refine XS.dup X7.here hx rfl (hb hby at_17) rfl rfl ?_
    show Steps p.tables e below (T7.setTop (mkF m 18 #[.val (.int p1), .unset, .unset, .unset, .unset, .unset] [(.ref b1), (.ref b1)])) _
    refine XS.iconst X7.here hx rfl (hb hby at_18) ?_
    show Steps p.tables e below (T7.setTop (mkF m 19 #[.val (.int p1), .unset, .unset, .unset, .unset, .unset] [(.int (2 : Int32)), (.ref b1), (.ref b1)])) _
    refine st8 _ ?_
    show Steps p.tables e below (T8.setTop (mkF m 22 #[.val (.int p1), .unset, .unset, .unset, .unset, .unset] [(.ref w_ON_PEAK_ENERGY), (.int (2 : Int32)), (.ref b1), (.ref b1)])) _
    refine st10 _ ?_
    show Steps p.tables e below (T10.setTop (mkF m 23 #[.val (.int p1), .unset, .unset, .unset, .unset, .unset] [(.ref b1)])) _
    refine XS.dup X10.here hx rfl (hb hby at_23) rfl rfl ?_
    show Steps p.tables e below (T10.setTop (mkF m 24 #[.val (.int p1), .unset, .unset, .unset, .unset, .unset] [(.ref b1), (.ref b1)])) _
    refine XS.iconst X10.here hx rfl (hb hby at_24) ?_
    show Steps p.tables e below (T10.setTop (mkF m 25 #[.val (.int p1), .unset, .unset, .unset, .unset, .unset] [(.int (3 : Int32)), (.ref b1), (.ref b1)])) _
    refine st11 _ ?_
    show Steps p.tables e below (T11.setTop (mkF m 28 #[.val (.int p1), .unset, .unset, .unset, .unset, .unset] [(.ref w_OFF_PEAK_ENERGY), (.int (3 : Int32)), (.ref b1), (.ref b1)])) _
    refine st13 _ ?_
    show Steps p.tables e below (T13.setTop (mkF m 29 #[.val (.int p1), .unset, .unset, .unset, .unset, .unset] [(.ref b1)])) _
    refine XS.dup X13.here hx rfl (hb hby at_29) rfl rfl ?_
    show Steps p.tables e below (T13.setTop (mkF m 30 #[.val (.int p1), .unset, .unset, .unset, .unset, .unset] [(.ref b1), (.ref b1)])) _
    refine XS.iconst X13.here hx rfl (hb hby at_30) ?_
    show Steps p.tables e below (T13.setTop (mkF m 31 #[.val (.int p1), .unset, .unset, .unset, .unset, .unset] [(.int (4 : Int32)), (.ref b1), (.ref b1)])) _
    refine st14 _ ?_
    show Steps p.tables e below (T14.setTop (mkF m 34 #[.val (.int p1), .unset, .unset, .unset, .unset, .unset] [(.ref w_BILLING_DEMAND_DAYS), (.int (4 : Int32)), (.ref b1), (.ref b1)])) _
    refine st16 _ ?_
    show Steps p.tables e below (T16.setTop (mkF m 35 #[.val (.int p1), .unset, .unset, .unset, .unset, .unset] [(.ref b1)])) _
    refine XS.dup X16.here hx rfl (hb hby at_35) rfl rfl ?_
    show Steps p.tables e below (T16.setTop (mkF m 36 #[.val (.int p1), .unset, .unset, .unset, .unset, .unset] [(.ref b1), (.ref b1)])) _
    refine XS.iconst X16.here hx rfl (hb hby at_36) ?_
    show Steps p.tables e below (T16.setTop (mkF m 37 #[.val (.int p1), .unset, .unset, .unset, .unset, .unset] [(.int (5 : Int32)), (.ref b1), (.ref b1)])) _
    refine st17 _ ?_
    show Steps p.tables e below (T17.setTop (mkF m 40 #[.val (.int p1), .unset, .unset, .unset, .unset, .unset] [(.ref w_METERED_DEMAND_DAYS), (.int (5 : Int32)), (.ref b1), (.ref b1)])) _
    refine st19 _ ?_
    show Steps p.tables e below (T19.setTop (mkF m 41 #[.val (.int p1), .unset, .unset, .unset, .unset, .unset] [(.ref b1)])) _
    refine XS.dup X19.here hx rfl (hb hby at_41) rfl rfl ?_
    show Steps p.tables e below (T19.setTop (mkF m 42 #[.val (.int p1), .unset, .unset, .unset, .unset, .unset] [(.ref b1), (.ref b1)])) _
    refine XS.bipush X19.here hx rfl (hb hby at_42) ?_
    show Steps p.tables e below (T19.setTop (mkF m 44 #[.val (.int p1), .unset, .unset, .unset, .unset, .unset] [(.int (6 : Int32)), (.ref b1), (.ref b1)])) _
    refine st20 _ ?_
    show Steps p.tables e below (T20.setTop (mkF m 47 #[.val (.int p1), .unset, .unset, .unset, .unset, .unset] [(.ref w_FIXTURE_DAYS), (.int (6 : Int32)), (.ref b1), (.ref b1)])) _
    refine st22 _ ?_
    show Steps p.tables e below (T22.setTop (mkF m 48 #[.val (.int p1), .unset, .unset, .unset, .unset, .unset] [(.ref b1)])) _
    refine XS.dup X22.here hx rfl (hb hby at_48) rfl rfl ?_
    show Steps p.tables e below (T22.setTop (mkF m 49 #[.val (.int p1), .unset, .unset, .unset, .unset, .unset] [(.ref b1), (.ref b1)])) _
    refine XS.bipush X22.here hx rfl (hb hby at_49) ?_
    show Steps p.tables e below (T22.setTop (mkF m 51 #[.val (.int p1), .unset, .unset, .unset, .unset, .unset] [(.int (7 : Int32)), (.ref b1), (.ref b1)])) _
    refine st23 _ ?_
    show Steps p.tables e below (T23.setTop (mkF m 54 #[.val (.int p1), .unset, .unset, .unset, .unset, .unset] [(.ref w_HIGHEST_HOUR_ENERGY), (.int (7 : Int32)), (.ref b1), (.ref b1)])) _
    refine st25 _ ?_
    show Steps p.tables e below (T25.setTop (mkF m 55 #[.val (.int p1), .unset, .unset, .unset, .unset, .unset] [(.ref b1)])) _
    refine XS.dup X25.here hx rfl (hb hby at_55) rfl rfl ?_
    show Steps p.tables e below (T25.setTop (mkF m 56 #[.val (.int p1), .unset, .unset, .unset, .unset, .unset] [(.ref b1), (.ref b1)])) _
    refine XS.bipush X25.here hx rfl (hb hby at_56) ?_
    show Steps p.tables e below (T25.setTop (mkF m 58 #[.val (.int p1), .unset, .unset, .unset, .unset, .unset] [(.int (8 : Int32)), (.ref b1), (.ref b1)])) _
    refine st26 _ ?_
    show Steps p.tables e below (T26.setTop (mkF m 61 #[.val (.int p1), .unset, .unset, .unset, .unset, .unset] [(.ref w_GAS_INDEXED_ENERGY), (.int (8 : Int32)), (.ref b1), (.ref b1)])) _
    refine st28 _ ?_
    show Steps p.tables e below (T28.setTop (mkF m 62 #[.val (.int p1), .unset, .unset, .unset, .unset, .unset] [(.ref b1)])) _
    refine XS.dup X28.here hx rfl (hb hby at_62) rfl rfl ?_
    show Steps p.tables e below (T28.setTop (mkF m 63 #[.val (.int p1), .unset, .unset, .unset, .unset, .unset] [(.ref b1), (.ref b1)])) _
    refine XS.bipush X28.here hx rfl (hb hby at_63) ?_
    show Steps p.tables e below (T28.setTop (mkF m 65 #[.val (.int p1), .unset, .unset, .unset, .unset, .unset] [(.int (9 : Int32)), (.ref b1), (.ref b1)])) _
    refine st29 _ ?_
    show Steps p.tables e below (T29.setTop (mkF m 68 #[.val (.int p1), .unset, .unset, .unset, .unset, .unset] [(.ref w_POOL_PRICED_ENERGY), (.int (9 : Int32)), (.ref b1), (.ref b1)])) _
    refine st31 _ ?_
    show Steps p.tables e below (T31.setTop (mkF m 69 #[.val (.int p1), .unset, .unset, .unset, .unset, .unset] [(.ref b1)])) _
    refine XS.dup X31.here hx rfl (hb hby at_69) rfl rfl ?_
    show Steps p.tables e below (T31.setTop (mkF m 70 #[.val (.int p1), .unset, .unset, .unset, .unset, .unset] [(.ref b1), (.ref b1)])) _
    refine XS.bipush X31.here hx rfl (hb hby at_70) ?_
    show Steps p.tables e below (T31.setTop (mkF m 72 #[.val (.int p1), .unset, .unset, .unset, .unset, .unset] [(.int (10 : Int32)), (.ref b1), (.ref b1)])) _
    refine st32 _ ?_
    show Steps p.tables e below (T32.setTop (mkF m 75 #[.val (.int p1), .unset, .unset, .unset, .unset, .unset] [(.ref w_ISO_COSTS), (.int (10 : Int32)), (.ref b1), (.ref b1)])) _
    refine st34 _ ?_
    show Steps p.tables e below (T34.setTop (mkF m 76 #[.val (.int p1), .unset, .unset, .unset, .unset, .unset] [(.ref b1)])) _
    refine XS.dup X34.here hx rfl (hb hby at_76) rfl rfl ?_
    show Steps p.tables e below (T34.setTop (mkF m 77 #[.val (.int p1), .unset, .unset, .unset, .unset, .unset] [(.ref b1), (.ref b1)])) _
    refine XS.bipush X34.here hx rfl (hb hby at_77) ?_
    show Steps p.tables e below (T34.setTop (mkF m 79 #[.val (.int p1), .unset, .unset, .unset, .unset, .unset] [(.int (11 : Int32)), (.ref b1), (.ref b1)])) _
    refine st35 _ ?_
    show Steps p.tables e below (T35.setTop (mkF m 82 #[.val (.int p1), .unset, .unset, .unset, .unset, .unset] [(.ref w_DISTRIBUTION_ACCESS_CHARGES), (.int (11 : Int32)), (.ref b1), (.ref b1)])) _
    refine st37 _ ?_
    show Steps p.tables e below (T37.setTop (mkF m 83 #[.val (.int p1), .unset, .unset, .unset, .unset, .unset] [(.ref b1)])) _
    refine XS.astoreN X37.here hx rfl (hb hby at_83) rfl rfl (l' := #[.val (.int p1), .val (.ref b1), .unset, .unset, .unset, .unset]) rfl ?_
    show Steps p.tables e below (T37.setTop (mkF m 84 #[.val (.int p1), .val (.ref b1), .unset, .unset, .unset, .unset] [])) _
    refine XS.iloadN X37.here hx rfl (hb hby at_84) rfl ?_
    show Steps p.tables e below (T37.setTop (mkF m 85 #[.val (.int p1), .val (.ref b1), .unset, .unset, .unset, .unset] [(.int p1)])) _
    refine X37.ldcInt hx hown (mvT hZ (wd28 hw)) (g := (mkF m 85 #[.val (.int p1), .val (.ref b1), .unset, .unset, .unset, .unset] [(.int p1)])) rfl (hb hby at_85) _ ?_
    show Steps p.tables e below (T37.setTop (mkF m 87 #[.val (.int p1), .val (.ref b1), .unset, .unset, .unset, .unset] [(.int (2147483647 : Int32)), (.int p1)])) _
    refine XS.iand X37.here hx rfl (hb hby at_87) rfl ?_
    show Steps p.tables e below (T37.setTop (mkF m 88 #[.val (.int p1), .val (.ref b1), .unset, .unset, .unset, .unset] [(.int (p1 &&& (2147483647 : Int32)))])) _
    refine XS.bipush X37.here hx rfl (hb hby at_88) ?_
    show Steps p.tables e below (T37.setTop (mkF m 90 #[.val (.int p1), .val (.ref b1), .unset, .unset, .unset, .unset] [(.int (12 : Int32)), (.int (p1 &&& (2147483647 : Int32)))])) _
    refine iremM X37 hx rfl (hb hby at_90) rfl (by decide) ?_
    show Steps p.tables e below (T37.setTop (mkF m 91 #[.val (.int p1), .val (.ref b1), .unset, .unset, .unset, .unset] [(.int ((p1 &&& (2147483647 : Int32)) % (12 : Int32)))])) _
    rw [pr25]
    show Steps p.tables e below (T37.setTop (mkF m 91 #[.val (.int p1), .val (.ref b1), .unset, .unset, .unset, .unset] [(.int (11 : Int32))])) _
    refine XS.istoreN X37.here hx rfl (hb hby at_91) rfl (l' := #[.val (.int p1), .val (.ref b1), .val (.int (11 : Int32)), .unset, .unset, .unset]) rfl ?_
    show Steps p.tables e below (T37.setTop (mkF m 92 #[.val (.int p1), .val (.ref b1), .val (.int (11 : Int32)), .unset, .unset, .unset] [])) _
    refine XS.aloadN X37.here hx rfl (hb hby at_92) rfl rfl ?_
    show Steps p.tables e below (T37.setTop (mkF m 93 #[.val (.int p1), .val (.ref b1), .val (.int (11 : Int32)), .unset, .unset, .unset] [(.ref b1)])) _
    refine XS.iloadN X37.here hx rfl (hb hby at_93) rfl ?_
    show Steps p.tables e below (T37.setTop (mkF m 94 #[.val (.int p1), .val (.ref b1), .val (.int (11 : Int32)), .unset, .unset, .unset] [(.int (11 : Int32)), (.ref b1)])) _
    refine X37.aaload hx (j := (11 : Int32)) (v := (.ref w_DISTRIBUTION_ACCESS_CHARGES)) (by rw [e37]; exact Ar38.1) (State.isArrayOf_alike hZ.alike Ar38.2.1) rfl Ar38.2.2 hin38 hat38 (g := (mkF m 94 #[.val (.int p1), .val (.ref b1), .val (.int (11 : Int32)), .unset, .unset, .unset] [(.int (11 : Int32)), (.ref b1)])) rfl rfl (hb hby at_94) _ ?_
    show Steps p.tables e below (T37.setTop (mkF m 95 #[.val (.int p1), .val (.ref b1), .val (.int (11 : Int32)), .unset, .unset, .unset] [(.ref w_DISTRIBUTION_ACCESS_CHARGES)])) _
    refine XS.astoreN X37.here hx rfl (hb hby at_95) rfl rfl (l' := #[.val (.int p1), .val (.ref b1), .val (.int (11 : Int32)), .val (.ref w_DISTRIBUTION_ACCESS_CHARGES), .unset, .unset]) rfl ?_
    show Steps p.tables e below (T37.setTop (mkF m 96 #[.val (.int p1), .val (.ref b1), .val (.int (11 : Int32)), .val (.ref w_DISTRIBUTION_ACCESS_CHARGES), .unset, .unset] [])) _
    refine XS.iloadN X37.here hx rfl (hb hby at_96) rfl ?_
    show Steps p.tables e below (T37.setTop (mkF m 97 #[.val (.int p1), .val (.ref b1), .val (.int (11 : Int32)), .val (.ref w_DISTRIBUTION_ACCESS_CHARGES), .unset, .unset] [(.int (11 : Int32))])) _
    refine XS.bipush X37.here hx rfl (hb hby at_97) ?_
    show Steps p.tables e below (T37.setTop (mkF m 99 #[.val (.int p1), .val (.ref b1), .val (.int (11 : Int32)), .val (.ref w_DISTRIBUTION_ACCESS_CHARGES), .unset, .unset] [(.int (7 : Int32)), (.int (11 : Int32))])) _
    refine XS.icmpNo X37.here hx rfl (hb hby at_99) rfl (feq (by decide : ¬ ((11 : Int32) = (7 : Int32)))).1 ?_
    show Steps p.tables e below (T37.setTop (mkF m 102 #[.val (.int p1), .val (.ref b1), .val (.int (11 : Int32)), .val (.ref w_DISTRIBUTION_ACCESS_CHARGES), .unset, .unset] [])) _
    refine XS.iloadN X37.here hx rfl (hb hby at_102) rfl ?_
    show Steps p.tables e below (T37.setTop (mkF m 103 #[.val (.int p1), .val (.ref b1), .val (.int (11 : Int32)), .val (.ref w_DISTRIBUTION_ACCESS_CHARGES), .unset, .unset] [(.int (11 : Int32))])) _
    refine XS.bipush X37.here hx rfl (hb hby at_103) ?_
    show Steps p.tables e below (T37.setTop (mkF m 105 #[.val (.int p1), .val (.ref b1), .val (.int (11 : Int32)), .val (.ref w_DISTRIBUTION_ACCESS_CHARGES), .unset, .unset] [(.int (8 : Int32)), (.int (11 : Int32))])) _
    refine XS.icmpNo X37.here hx rfl (hb hby at_105) rfl (feq (by decide : ¬ ((11 : Int32) = (8 : Int32)))).1 ?_
    show Steps p.tables e below (T37.setTop (mkF m 108 #[.val (.int p1), .val (.ref b1), .val (.int (11 : Int32)), .val (.ref w_DISTRIBUTION_ACCESS_CHARGES), .unset, .unset] [])) _
    refine XS.iloadN X37.here hx rfl (hb hby at_108) rfl ?_
    show Steps p.tables e below (T37.setTop (mkF m 109 #[.val (.int p1), .val (.ref b1), .val (.int (11 : Int32)), .val (.ref w_DISTRIBUTION_ACCESS_CHARGES), .unset, .unset] [(.int (11 : Int32))])) _
    refine XS.bipush X37.here hx rfl (hb hby at_109) ?_
    show Steps p.tables e below (T37.setTop (mkF m 111 #[.val (.int p1), .val (.ref b1), .val (.int (11 : Int32)), .val (.ref w_DISTRIBUTION_ACCESS_CHARGES), .unset, .unset] [(.int (9 : Int32)), (.int (11 : Int32))])) _
    refine XS.icmpYes X37.here hx rfl (pc0 := 111) (pc' := 118) rfl (hb hby at_111) rfl (feq (by decide : ¬ ((11 : Int32) = (9 : Int32)))).2 (by decide) (by decide) ?_
    show Steps p.tables e below (T37.setTop (mkF m 118 #[.val (.int p1), .val (.ref b1), .val (.int (11 : Int32)), .val (.ref w_DISTRIBUTION_ACCESS_CHARGES), .unset, .unset] [])) _
    refine XS.iconst X37.here hx rfl (hb hby at_118) ?_
    show Steps p.tables e below (T37.setTop (mkF m 119 #[.val (.int p1), .val (.ref b1), .val (.int (11 : Int32)), .val (.ref w_DISTRIBUTION_ACCESS_CHARGES), .unset, .unset] [(.int (0 : Int32))])) _
    refine XS.istore X37.here hx rfl (hb hby at_119) rfl (l' := #[.val (.int p1), .val (.ref b1), .val (.int (11 : Int32)), .val (.ref w_DISTRIBUTION_ACCESS_CHARGES), .val (.int (0 : Int32)), .unset]) rfl ?_
    show Steps p.tables e below (T37.setTop (mkF m 121 #[.val (.int p1), .val (.ref b1), .val (.int (11 : Int32)), .val (.ref w_DISTRIBUTION_ACCESS_CHARGES), .val (.int (0 : Int32)), .unset] [])) _
    refine XS.aloadN X37.here hx rfl (hb hby at_121) rfl rfl ?_
    show Steps p.tables e below (T37.setTop (mkF m 122 #[.val (.int p1), .val (.ref b1), .val (.int (11 : Int32)), .val (.ref w_DISTRIBUTION_ACCESS_CHARGES), .val (.int (0 : Int32)), .unset] [(.ref w_DISTRIBUTION_ACCESS_CHARGES)])) _
    refine st39.trans ?_
    show Steps p.tables e below (T39.setTop (mkF m 125 #[.val (.int p1), .val (.ref b1), .val (.int (11 : Int32)), .val (.ref w_DISTRIBUTION_ACCESS_CHARGES), .val (.int (0 : Int32)), .unset] [(.int (0 : Int32))])) _
    refine XS.istore X39.here hx rfl (hb hby at_125) rfl (l' := #[.val (.int p1), .val (.ref b1), .val (.int (11 : Int32)), .val (.ref w_DISTRIBUTION_ACCESS_CHARGES), .val (.int (0 : Int32)), .val (.int (0 : Int32))]) rfl ?_
    show Steps p.tables e below (T39.setTop (mkF m 127 #[.val (.int p1), .val (.ref b1), .val (.int (11 : Int32)), .val (.ref w_DISTRIBUTION_ACCESS_CHARGES), .val (.int (0 : Int32)), .val (.int (0 : Int32))] [])) _
    refine XS.iload X39.here hx rfl (hb hby at_127) rfl ?_
    show Steps p.tables e below (T39.setTop (mkF m 129 #[.val (.int p1), .val (.ref b1), .val (.int (11 : Int32)), .val (.ref w_DISTRIBUTION_ACCESS_CHARGES), .val (.int (0 : Int32)), .val (.int (0 : Int32))] [(.int (0 : Int32))])) _
    refine XS.iload X39.here hx rfl (hb hby at_129) rfl ?_
    show Steps p.tables e below (T39.setTop (mkF m 131 #[.val (.int p1), .val (.ref b1), .val (.int (11 : Int32)), .val (.ref w_DISTRIBUTION_ACCESS_CHARGES), .val (.int (0 : Int32)), .val (.int (0 : Int32))] [(.int (0 : Int32)), (.int (0 : Int32))])) _
    refine XS.icmpYes X39.here hx rfl (pc0 := 131) (pc' := 136) rfl (hb hby at_131) rfl (teq (rfl : (0 : Int32) = (0 : Int32))).1 (by decide) (by decide) ?_
    show Steps p.tables e below (T39.setTop (mkF m 136 #[.val (.int p1), .val (.ref b1), .val (.int (11 : Int32)), .val (.ref w_DISTRIBUTION_ACCESS_CHARGES), .val (.int (0 : Int32)), .val (.int (0 : Int32))] [])) _
    refine XS.iload X39.here hx rfl (hb hby at_136) rfl ?_
    show Steps p.tables e below (T39.setTop (mkF m 138 #[.val (.int p1), .val (.ref b1), .val (.int (11 : Int32)), .val (.ref w_DISTRIBUTION_ACCESS_CHARGES), .val (.int (0 : Int32)), .val (.int (0 : Int32))] [(.int (0 : Int32))])) _
    refine XS.ifYes X39.here hx rfl (pc0 := 138) (pc' := 164) rfl (hb hby at_138) rfl ((if0 _ _).trans (teq (rfl : (0 : Int32) = (0 : Int32))).1) (by decide) (by decide) ?_
    show Steps p.tables e below (T39.setTop (mkF m 164 #[.val (.int p1), .val (.ref b1), .val (.int (11 : Int32)), .val (.ref w_DISTRIBUTION_ACCESS_CHARGES), .val (.int (0 : Int32)), .val (.int (0 : Int32))] [])) _
    refine XS.iconst X39.here hx rfl (hb hby at_164) ?_
    show Steps p.tables e below (T39.setTop (mkF m 165 #[.val (.int p1), .val (.ref b1), .val (.int (11 : Int32)), .val (.ref w_DISTRIBUTION_ACCESS_CHARGES), .val (.int (0 : Int32)), .val (.int (0 : Int32))] [(.int (1 : Int32))])) _
    exact retN X39 hx (t := .boolean) Bd.returns (by simp) (hb hby at_165) hr
  · exact ⟨rfl, N39⟩
set_option maxRecDepth 65536 in
set_option maxHeartbeats 40000000 in
theorem comes_1 {Post : Tables → Env → Array Value → State → Outcome → State → Prop} (hpost : ∀ tb e args s v u, (limb_1_1.after args s (.returned v) u = true ∧ limb_1_2.after args s (.returned v) u = true ∧ True) → FrameEnd s (.returned v) u (Jvm.fieldLocs frame_1_writes args s ++ Jvm.arrayLocs frame_1_arrays args s ++ Jvm.staticLocs frame_1_statics s) 16 128 → Post tb e args s (.returned v) u) :
    ArmFor flags0 classFile x code maxLocals ret World_1 tables_1 room_1 Calls_1 rest_1 Pre_1 Post := by
  intro l hfl _ _ p e ha hc hk s m args below hf hA hF happ hP
  obtain ⟨hcalls, hrest, hpre⟩ := hP
  obtain ⟨-, -, -, hnamed, -, -, -, hat⟩ := (Spec.applies_iff hf).mp happ
  obtain ⟨hg, hn⟩ := and_e (Cond.before_iff.mp (show (Jvm.Cond.and given_1 narrow_1).before args s = true from hpre))
  obtain ⟨g179, g180⟩ := and_e hg
  obtain ⟨w0, rfl⟩ : ∃ w0 : Value, args = #[w0] := by
    have hs : args.size = 1 := by simpa [Cond.value, given_1] using g179
    obtain ⟨L⟩ := args
    match L, hs with
    | [w0], _ => exact ⟨w0, rfl⟩
  have hw := fun d (hd : d ∈ tables_1) => atoms_spec (ws := Jvm.Cond.code x code maxLocals ret :: tables_1) hat d (List.mem_cons_of_mem _ hd)
  have hfit : Fit s := fun {y c} hc i hi => by
    obtain ⟨ha, rfl⟩ := Array.getElem?_eq_some_iff.mp hc
    have q := List.all_eq_true.mp ((Array.all_eq_true_iff_forall_mem.mp hF) _ (Array.getElem_mem ha)) i (List.mem_range.mpr hi)
    simpa [Array.getElem?_eq_getElem hi] using q
  obtain ⟨i0, ei0⟩ := is_v g180
  obtain rfl : w0 = (.int i0) := Option.some.inj ei0
  obtain ⟨n1, n2⟩ := and_e hn
  obtain ⟨n3, n4⟩ := and_e n2
  obtain ⟨n5, n6⟩ := and_e n4
  obtain ⟨n7, n8⟩ := and_e n6
  obtain ⟨n9, n10⟩ := and_e n8
  obtain ⟨n11, n12⟩ := and_e n10
  obtain ⟨n13, n14⟩ := and_e n12
  obtain ⟨n15, n16⟩ := and_e n14
  obtain ⟨n17, n18⟩ := and_e n16
  obtain ⟨n19, n20⟩ := and_e n18
  obtain ⟨n21, n22⟩ := and_e n20
  obtain ⟨n23, n24⟩ := and_e n22
  obtain ⟨n25, n26⟩ := and_e n24
  obtain ⟨n27, n28⟩ := and_e n26
  obtain ⟨n29, n30⟩ := and_e n28
  obtain ⟨n31, n32⟩ := and_e n30
  obtain ⟨n33, n34⟩ := and_e n32
  obtain ⟨n35, n36⟩ := and_e n34
  obtain ⟨n37, n38⟩ := and_e n36
  obtain ⟨n39, n40⟩ := and_e n38
  obtain ⟨n41, n42⟩ := and_e n40
  obtain ⟨n43, n44⟩ := and_e n42
  obtain ⟨n45, n46⟩ := and_e n44
  obtain ⟨n47, n48⟩ := and_e n46
  obtain ⟨n49, n50⟩ := and_e n48
  obtain ⟨n51, n52⟩ := and_e n50
  obtain ⟨n53, n54⟩ := and_e n52
  obtain ⟨n55, n56⟩ := and_e n54
  obtain ⟨n57, n58⟩ := and_e n56
  obtain ⟨n59, n60⟩ := and_e n58
  obtain ⟨n61, n62⟩ := and_e n60
  obtain ⟨n63, n64⟩ := and_e n62
  obtain ⟨n65, n66⟩ := and_e n64
  obtain ⟨n67, n68⟩ := and_e n66
  obtain ⟨n69, n70⟩ := and_e n68
  obtain ⟨n71, n72⟩ := and_e n70
  obtain ⟨n73, n74⟩ := and_e n72
  obtain ⟨n75, n76⟩ := and_e n74
  obtain ⟨n77, n78⟩ := and_e n76
  obtain ⟨n79, n80⟩ := and_e n78
  obtain ⟨n81, n82⟩ := and_e n80
  obtain ⟨n83, n84⟩ := and_e n82
  obtain ⟨n85, n86⟩ := and_e n84
  obtain ⟨n87, n88⟩ := and_e n86
  obtain ⟨n89, n90⟩ := and_e n88
  obtain ⟨n91, n92⟩ := and_e n90
  obtain ⟨n93, n94⟩ := and_e n92
  obtain ⟨w_DAYS, ev95⟩ := exa_v n1
  have S_Basis_DAYS : Sta s s.heap "com/example/tarcal/tarcal/schedules/Basis" "DAYS" "Lcom/example/tarcal/tarcal/schedules/Basis;" (.ref w_DAYS) := Sta.start ev95 (Or.inr ⟨(wd3 hw), (wd4 hw)⟩)
  have E_w_DAYS : Exa s s.heap w_DAYS "com/example/tarcal/tarcal/schedules/Basis" := Exa.start ev95 n1
  obtain ⟨w_ENERGY, ev96⟩ := exa_v n3
  have S_Basis_ENERGY : Sta s s.heap "com/example/tarcal/tarcal/schedules/Basis" "ENERGY" "Lcom/example/tarcal/tarcal/schedules/Basis;" (.ref w_ENERGY) := Sta.start ev96 (Or.inr ⟨(wd3 hw), (wd7 hw)⟩)
  have E_w_ENERGY : Exa s s.heap w_ENERGY "com/example/tarcal/tarcal/schedules/Basis" := Exa.start ev96 n3
  obtain ⟨w_ON_PEAK_ENERGY, ev97⟩ := exa_v n5
  have S_Basis_ON_PEAK_ENERGY : Sta s s.heap "com/example/tarcal/tarcal/schedules/Basis" "ON_PEAK_ENERGY" "Lcom/example/tarcal/tarcal/schedules/Basis;" (.ref w_ON_PEAK_ENERGY) := Sta.start ev97 (Or.inr ⟨(wd3 hw), (wd9 hw)⟩)
  have E_w_ON_PEAK_ENERGY : Exa s s.heap w_ON_PEAK_ENERGY "com/example/tarcal/tarcal/schedules/Basis" := Exa.start ev97 n5
  obtain ⟨w_OFF_PEAK_ENERGY, ev98⟩ := exa_v n7
  have S_Basis_OFF_PEAK_ENERGY : Sta s s.heap "com/example/tarcal/tarcal/schedules/Basis" "OFF_PEAK_ENERGY" "Lcom/example/tarcal/tarcal/schedules/Basis;" (.ref w_OFF_PEAK_ENERGY) := Sta.start ev98 (Or.inr ⟨(wd3 hw), (wd11 hw)⟩)
  have E_w_OFF_PEAK_ENERGY : Exa s s.heap w_OFF_PEAK_ENERGY "com/example/tarcal/tarcal/schedules/Basis" := Exa.start ev98 n7
  obtain ⟨w_BILLING_DEMAND_DAYS, ev99⟩ := exa_v n9
  have S_Basis_BILLING_DEMAND_DAYS : Sta s s.heap "com/example/tarcal/tarcal/schedules/Basis" "BILLING_DEMAND_DAYS" "Lcom/example/tarcal/tarcal/schedules/Basis;" (.ref w_BILLING_DEMAND_DAYS) := Sta.start ev99 (Or.inr ⟨(wd3 hw), (wd13 hw)⟩)
  have E_w_BILLING_DEMAND_DAYS : Exa s s.heap w_BILLING_DEMAND_DAYS "com/example/tarcal/tarcal/schedules/Basis" := Exa.start ev99 n9
  obtain ⟨w_METERED_DEMAND_DAYS, ev100⟩ := exa_v n11
  have S_Basis_METERED_DEMAND_DAYS : Sta s s.heap "com/example/tarcal/tarcal/schedules/Basis" "METERED_DEMAND_DAYS" "Lcom/example/tarcal/tarcal/schedules/Basis;" (.ref w_METERED_DEMAND_DAYS) := Sta.start ev100 (Or.inr ⟨(wd3 hw), (wd15 hw)⟩)
  have E_w_METERED_DEMAND_DAYS : Exa s s.heap w_METERED_DEMAND_DAYS "com/example/tarcal/tarcal/schedules/Basis" := Exa.start ev100 n11
  obtain ⟨w_FIXTURE_DAYS, ev101⟩ := exa_v n13
  have S_Basis_FIXTURE_DAYS : Sta s s.heap "com/example/tarcal/tarcal/schedules/Basis" "FIXTURE_DAYS" "Lcom/example/tarcal/tarcal/schedules/Basis;" (.ref w_FIXTURE_DAYS) := Sta.start ev101 (Or.inr ⟨(wd3 hw), (wd17 hw)⟩)
  have E_w_FIXTURE_DAYS : Exa s s.heap w_FIXTURE_DAYS "com/example/tarcal/tarcal/schedules/Basis" := Exa.start ev101 n13
  obtain ⟨w_HIGHEST_HOUR_ENERGY, ev102⟩ := exa_v n15
  have S_Basis_HIGHEST_HOUR_ENERGY : Sta s s.heap "com/example/tarcal/tarcal/schedules/Basis" "HIGHEST_HOUR_ENERGY" "Lcom/example/tarcal/tarcal/schedules/Basis;" (.ref w_HIGHEST_HOUR_ENERGY) := Sta.start ev102 (Or.inr ⟨(wd3 hw), (wd19 hw)⟩)
  have E_w_HIGHEST_HOUR_ENERGY : Exa s s.heap w_HIGHEST_HOUR_ENERGY "com/example/tarcal/tarcal/schedules/Basis" := Exa.start ev102 n15
  obtain ⟨w_GAS_INDEXED_ENERGY, ev103⟩ := exa_v n17
  have S_Basis_GAS_INDEXED_ENERGY : Sta s s.heap "com/example/tarcal/tarcal/schedules/Basis" "GAS_INDEXED_ENERGY" "Lcom/example/tarcal/tarcal/schedules/Basis;" (.ref w_GAS_INDEXED_ENERGY) := Sta.start ev103 (Or.inr ⟨(wd3 hw), (wd21 hw)⟩)
  have E_w_GAS_INDEXED_ENERGY : Exa s s.heap w_GAS_INDEXED_ENERGY "com/example/tarcal/tarcal/schedules/Basis" := Exa.start ev103 n17
  obtain ⟨w_POOL_PRICED_ENERGY, ev104⟩ := exa_v n19
  have S_Basis_POOL_PRICED_ENERGY : Sta s s.heap "com/example/tarcal/tarcal/schedules/Basis" "POOL_PRICED_ENERGY" "Lcom/example/tarcal/tarcal/schedules/Basis;" (.ref w_POOL_PRICED_ENERGY) := Sta.start ev104 (Or.inr ⟨(wd3 hw), (wd23 hw)⟩)
  have E_w_POOL_PRICED_ENERGY : Exa s s.heap w_POOL_PRICED_ENERGY "com/example/tarcal/tarcal/schedules/Basis" := Exa.start ev104 n19
  obtain ⟨w_ISO_COSTS, ev105⟩ := exa_v n21
  have S_Basis_ISO_COSTS : Sta s s.heap "com/example/tarcal/tarcal/schedules/Basis" "ISO_COSTS" "Lcom/example/tarcal/tarcal/schedules/Basis;" (.ref w_ISO_COSTS) := Sta.start ev105 (Or.inr ⟨(wd3 hw), (wd25 hw)⟩)
  have E_w_ISO_COSTS : Exa s s.heap w_ISO_COSTS "com/example/tarcal/tarcal/schedules/Basis" := Exa.start ev105 n21
  obtain ⟨w_DISTRIBUTION_ACCESS_CHARGES, ev106⟩ := exa_v n23
  have S_Basis_DISTRIBUTION_ACCESS_CHARGES : Sta s s.heap "com/example/tarcal/tarcal/schedules/Basis" "DISTRIBUTION_ACCESS_CHARGES" "Lcom/example/tarcal/tarcal/schedules/Basis;" (.ref w_DISTRIBUTION_ACCESS_CHARGES) := Sta.start ev106 (Or.inr ⟨(wd3 hw), (wd27 hw)⟩)
  have E_w_DISTRIBUTION_ACCESS_CHARGES : Exa s s.heap w_DISTRIBUTION_ACCESS_CHARGES "com/example/tarcal/tarcal/schedules/Basis" := Exa.start ev106 n23
  have ev107 := own_eqI n25
  have F_108 : Fld s s.heap w_DAYS "java/lang/Enum" "ordinal" "I" (.int (0 : Int32)) := Fld.start ((fld_at ev95).symm.trans ev107)
  have ev109 := own_eqI n27
  have F_110 : Fld s s.heap w_HIGHEST_HOUR_ENERGY "java/lang/Enum" "ordinal" "I" (.int (7 : Int32)) := Fld.start ((fld_at ev102).symm.trans ev109)
  have ev111 := own_eqI n29
  have F_112 : Fld s s.heap w_GAS_INDEXED_ENERGY "java/lang/Enum" "ordinal" "I" (.int (8 : Int32)) := Fld.start ((fld_at ev103).symm.trans ev111)
  have ev113 := own_eqI n31
  have F_114 : Fld s s.heap w_POOL_PRICED_ENERGY "java/lang/Enum" "ordinal" "I" (.int (9 : Int32)) := Fld.start ((fld_at ev104).symm.trans ev113)
  have ev115 := own_eqI n33
  have F_116 : Fld s s.heap w_OFF_PEAK_ENERGY "java/lang/Enum" "ordinal" "I" (.int (3 : Int32)) := Fld.start ((fld_at ev98).symm.trans ev115)
  have ev117 := own_eqI n35
  have F_118 : Fld s s.heap w_ON_PEAK_ENERGY "java/lang/Enum" "ordinal" "I" (.int (2 : Int32)) := Fld.start ((fld_at ev97).symm.trans ev117)
  have ev119 := own_eqI n37
  have F_120 : Fld s s.heap w_HIGHEST_HOUR_ENERGY "com/example/tarcal/tarcal/schedules/Basis" "onDemand" "Z" (.int (0 : Int32)) := Fld.start ((fld_at ev102).symm.trans ev119)
  have ev121 := own_eqI n39
  have F_122 : Fld s s.heap w_HIGHEST_HOUR_ENERGY "com/example/tarcal/tarcal/schedules/Basis" "byTimeOfUse" "Z" (.int (0 : Int32)) := Fld.start ((fld_at ev102).symm.trans ev121)
  have ev123 := own_eqI n41
  have F_124 : Fld s s.heap w_ISO_COSTS "java/lang/Enum" "ordinal" "I" (.int (10 : Int32)) := Fld.start ((fld_at ev105).symm.trans ev123)
  have ev125 := own_eqI n43
  have F_126 : Fld s s.heap w_DISTRIBUTION_ACCESS_CHARGES "java/lang/Enum" "ordinal" "I" (.int (11 : Int32)) := Fld.start ((fld_at ev106).symm.trans ev125)
  have ev127 := own_eqI n45
  have F_128 : Fld s s.heap w_BILLING_DEMAND_DAYS "java/lang/Enum" "ordinal" "I" (.int (4 : Int32)) := Fld.start ((fld_at ev99).symm.trans ev127)
  have ev129 := own_eqI n47
  have F_130 : Fld s s.heap w_GAS_INDEXED_ENERGY "com/example/tarcal/tarcal/schedules/Basis" "onDemand" "Z" (.int (0 : Int32)) := Fld.start ((fld_at ev103).symm.trans ev129)
  have ev131 := own_eqI n49
  have F_132 : Fld s s.heap w_GAS_INDEXED_ENERGY "com/example/tarcal/tarcal/schedules/Basis" "byTimeOfUse" "Z" (.int (0 : Int32)) := Fld.start ((fld_at ev103).symm.trans ev131)
  have ev133 := own_eqI n51
  have F_134 : Fld s s.heap w_ENERGY "java/lang/Enum" "ordinal" "I" (.int (1 : Int32)) := Fld.start ((fld_at ev96).symm.trans ev133)
  have ev135 := own_eqI n53
  have F_136 : Fld s s.heap w_POOL_PRICED_ENERGY "com/example/tarcal/tarcal/schedules/Basis" "onDemand" "Z" (.int (0 : Int32)) := Fld.start ((fld_at ev104).symm.trans ev135)
  have ev137 := own_eqI n55
  have F_138 : Fld s s.heap w_POOL_PRICED_ENERGY "com/example/tarcal/tarcal/schedules/Basis" "byTimeOfUse" "Z" (.int (0 : Int32)) := Fld.start ((fld_at ev104).symm.trans ev137)
  have ev139 := own_eqI n57
  have F_140 : Fld s s.heap w_FIXTURE_DAYS "java/lang/Enum" "ordinal" "I" (.int (6 : Int32)) := Fld.start ((fld_at ev101).symm.trans ev139)
  have ev141 := own_eqI n59
  have F_142 : Fld s s.heap w_METERED_DEMAND_DAYS "java/lang/Enum" "ordinal" "I" (.int (5 : Int32)) := Fld.start ((fld_at ev100).symm.trans ev141)
  have ev143 := own_eqI n61
  have F_144 : Fld s s.heap w_DAYS "com/example/tarcal/tarcal/schedules/Basis" "onDemand" "Z" (.int (0 : Int32)) := Fld.start ((fld_at ev95).symm.trans ev143)
  have ev145 := own_eqI n63
  have F_146 : Fld s s.heap w_DAYS "com/example/tarcal/tarcal/schedules/Basis" "byTimeOfUse" "Z" (.int (0 : Int32)) := Fld.start ((fld_at ev95).symm.trans ev145)
  have ev147 := own_eqI n65
  have F_148 : Fld s s.heap w_ENERGY "com/example/tarcal/tarcal/schedules/Basis" "onDemand" "Z" (.int (0 : Int32)) := Fld.start ((fld_at ev96).symm.trans ev147)
  have ev149 := own_eqI n67
  have F_150 : Fld s s.heap w_ENERGY "com/example/tarcal/tarcal/schedules/Basis" "byTimeOfUse" "Z" (.int (0 : Int32)) := Fld.start ((fld_at ev96).symm.trans ev149)
  have ev151 := own_eqI n69
  have F_152 : Fld s s.heap w_ON_PEAK_ENERGY "com/example/tarcal/tarcal/schedules/Basis" "onDemand" "Z" (.int (0 : Int32)) := Fld.start ((fld_at ev97).symm.trans ev151)
  have ev153 := own_eqI n71
  have F_154 : Fld s s.heap w_ON_PEAK_ENERGY "com/example/tarcal/tarcal/schedules/Basis" "byTimeOfUse" "Z" (.int (1 : Int32)) := Fld.start ((fld_at ev97).symm.trans ev153)
  have ev155 := own_eqI n73
  have F_156 : Fld s s.heap w_OFF_PEAK_ENERGY "com/example/tarcal/tarcal/schedules/Basis" "onDemand" "Z" (.int (0 : Int32)) := Fld.start ((fld_at ev98).symm.trans ev155)
  have ev157 := own_eqI n75
  have F_158 : Fld s s.heap w_OFF_PEAK_ENERGY "com/example/tarcal/tarcal/schedules/Basis" "byTimeOfUse" "Z" (.int (1 : Int32)) := Fld.start ((fld_at ev98).symm.trans ev157)
  have ev159 := own_eqI n77
  have F_160 : Fld s s.heap w_BILLING_DEMAND_DAYS "com/example/tarcal/tarcal/schedules/Basis" "onDemand" "Z" (.int (1 : Int32)) := Fld.start ((fld_at ev99).symm.trans ev159)
  have ev161 := own_eqI n79
  have F_162 : Fld s s.heap w_BILLING_DEMAND_DAYS "com/example/tarcal/tarcal/schedules/Basis" "byTimeOfUse" "Z" (.int (0 : Int32)) := Fld.start ((fld_at ev99).symm.trans ev161)
  have ev163 := own_eqI n81
  have F_164 : Fld s s.heap w_METERED_DEMAND_DAYS "com/example/tarcal/tarcal/schedules/Basis" "onDemand" "Z" (.int (1 : Int32)) := Fld.start ((fld_at ev100).symm.trans ev163)
  have ev165 := own_eqI n83
  have F_166 : Fld s s.heap w_METERED_DEMAND_DAYS "com/example/tarcal/tarcal/schedules/Basis" "byTimeOfUse" "Z" (.int (0 : Int32)) := Fld.start ((fld_at ev100).symm.trans ev165)
  have ev167 := own_eqI n85
  have F_168 : Fld s s.heap w_FIXTURE_DAYS "com/example/tarcal/tarcal/schedules/Basis" "onDemand" "Z" (.int (0 : Int32)) := Fld.start ((fld_at ev101).symm.trans ev167)
  have ev169 := own_eqI n87
  have F_170 : Fld s s.heap w_FIXTURE_DAYS "com/example/tarcal/tarcal/schedules/Basis" "byTimeOfUse" "Z" (.int (0 : Int32)) := Fld.start ((fld_at ev101).symm.trans ev169)
  have ev171 := own_eqI n89
  have F_172 : Fld s s.heap w_ISO_COSTS "com/example/tarcal/tarcal/schedules/Basis" "onDemand" "Z" (.int (0 : Int32)) := Fld.start ((fld_at ev105).symm.trans ev171)
  have ev173 := own_eqI n91
  have F_174 : Fld s s.heap w_ISO_COSTS "com/example/tarcal/tarcal/schedules/Basis" "byTimeOfUse" "Z" (.int (0 : Int32)) := Fld.start ((fld_at ev105).symm.trans ev173)
  have ev175 := own_eqI n93
  have F_176 : Fld s s.heap w_DISTRIBUTION_ACCESS_CHARGES "com/example/tarcal/tarcal/schedules/Basis" "onDemand" "Z" (.int (0 : Int32)) := Fld.start ((fld_at ev106).symm.trans ev175)
  have ev177 := own_eqI n94
  have F_178 : Fld s s.heap w_DISTRIBUTION_ACCESS_CHARGES "com/example/tarcal/tarcal/schedules/Basis" "byTimeOfUse" "Z" (.int (0 : Int32)) := Fld.start ((fld_at ev106).symm.trans ev177)
  have R : MetFree l x (head1 (Jvm.Cond.code x code maxLocals ret :: tables_1) room_1) (fun a U => a = #[(.int i0)] ∧ s.Warmed39 U.vm ∧ U.heap = s.heap) (fun _ _ _ _ _ => True) (fun _ U o U' => ∃ v L, o = .returned v ∧ Q0 s.heap.size v L ∧ FrameEnd U o U' L 16 128) := by
    rcases own_mod12 i0 with hs0 | hs0 | hs0 | hs0 | hs0 | hs0 | hs0 | hs0 | hs0 | hs0 | hs0 | hs0
    · exact rm0_0 l s _ hw tables_1 i0 w_DAYS w_ENERGY w_ON_PEAK_ENERGY w_OFF_PEAK_ENERGY w_BILLING_DEMAND_DAYS w_METERED_DEMAND_DAYS w_FIXTURE_DAYS w_HIGHEST_HOUR_ENERGY w_GAS_INDEXED_ENERGY w_POOL_PRICED_ENERGY w_ISO_COSTS w_DISTRIBUTION_ACCESS_CHARGES s.heap s.heap.size (Old.start s) S_Basis_DAYS E_w_DAYS S_Basis_ENERGY E_w_ENERGY S_Basis_ON_PEAK_ENERGY E_w_ON_PEAK_ENERGY S_Basis_OFF_PEAK_ENERGY E_w_OFF_PEAK_ENERGY S_Basis_BILLING_DEMAND_DAYS E_w_BILLING_DEMAND_DAYS S_Basis_METERED_DEMAND_DAYS E_w_METERED_DEMAND_DAYS S_Basis_FIXTURE_DAYS E_w_FIXTURE_DAYS S_Basis_HIGHEST_HOUR_ENERGY E_w_HIGHEST_HOUR_ENERGY S_Basis_GAS_INDEXED_ENERGY E_w_GAS_INDEXED_ENERGY S_Basis_POOL_PRICED_ENERGY E_w_POOL_PRICED_ENERGY S_Basis_ISO_COSTS E_w_ISO_COSTS S_Basis_DISTRIBUTION_ACCESS_CHARGES E_w_DISTRIBUTION_ACCESS_CHARGES hs0 (Fld.ne F_108 F_110 (by decide)) (Fld.ne F_108 F_112 (by decide)) (Fld.ne F_108 F_114 (by decide))
    · exact rm0_1 l s _ hw tables_1 i0 w_DAYS w_ENERGY w_ON_PEAK_ENERGY w_OFF_PEAK_ENERGY w_BILLING_DEMAND_DAYS w_METERED_DEMAND_DAYS w_FIXTURE_DAYS w_HIGHEST_HOUR_ENERGY w_GAS_INDEXED_ENERGY w_POOL_PRICED_ENERGY w_ISO_COSTS w_DISTRIBUTION_ACCESS_CHARGES s.heap s.heap.size (Old.start s) S_Basis_DAYS E_w_DAYS S_Basis_ENERGY E_w_ENERGY S_Basis_ON_PEAK_ENERGY E_w_ON_PEAK_ENERGY S_Basis_OFF_PEAK_ENERGY E_w_OFF_PEAK_ENERGY S_Basis_BILLING_DEMAND_DAYS E_w_BILLING_DEMAND_DAYS S_Basis_METERED_DEMAND_DAYS E_w_METERED_DEMAND_DAYS S_Basis_FIXTURE_DAYS E_w_FIXTURE_DAYS S_Basis_HIGHEST_HOUR_ENERGY E_w_HIGHEST_HOUR_ENERGY S_Basis_GAS_INDEXED_ENERGY E_w_GAS_INDEXED_ENERGY S_Basis_POOL_PRICED_ENERGY E_w_POOL_PRICED_ENERGY S_Basis_ISO_COSTS E_w_ISO_COSTS S_Basis_DISTRIBUTION_ACCESS_CHARGES E_w_DISTRIBUTION_ACCESS_CHARGES hs0 (Fld.ne F_134 F_110 (by decide)) (Fld.ne F_134 F_112 (by decide)) (Fld.ne F_134 F_114 (by decide))
    · exact rm0_2 l s _ hw tables_1 i0 w_DAYS w_ENERGY w_ON_PEAK_ENERGY w_OFF_PEAK_ENERGY w_BILLING_DEMAND_DAYS w_METERED_DEMAND_DAYS w_FIXTURE_DAYS w_HIGHEST_HOUR_ENERGY w_GAS_INDEXED_ENERGY w_POOL_PRICED_ENERGY w_ISO_COSTS w_DISTRIBUTION_ACCESS_CHARGES s.heap s.heap.size (Old.start s) S_Basis_DAYS E_w_DAYS S_Basis_ENERGY E_w_ENERGY S_Basis_ON_PEAK_ENERGY E_w_ON_PEAK_ENERGY S_Basis_OFF_PEAK_ENERGY E_w_OFF_PEAK_ENERGY S_Basis_BILLING_DEMAND_DAYS E_w_BILLING_DEMAND_DAYS S_Basis_METERED_DEMAND_DAYS E_w_METERED_DEMAND_DAYS S_Basis_FIXTURE_DAYS E_w_FIXTURE_DAYS S_Basis_HIGHEST_HOUR_ENERGY E_w_HIGHEST_HOUR_ENERGY S_Basis_GAS_INDEXED_ENERGY E_w_GAS_INDEXED_ENERGY S_Basis_POOL_PRICED_ENERGY E_w_POOL_PRICED_ENERGY S_Basis_ISO_COSTS E_w_ISO_COSTS S_Basis_DISTRIBUTION_ACCESS_CHARGES E_w_DISTRIBUTION_ACCESS_CHARGES hs0 (Fld.ne F_118 F_110 (by decide)) (Fld.ne F_118 F_112 (by decide)) (Fld.ne F_118 F_114 (by decide))
    · exact rm0_3 l s _ hw tables_1 i0 w_DAYS w_ENERGY w_ON_PEAK_ENERGY w_OFF_PEAK_ENERGY w_BILLING_DEMAND_DAYS w_METERED_DEMAND_DAYS w_FIXTURE_DAYS w_HIGHEST_HOUR_ENERGY w_GAS_INDEXED_ENERGY w_POOL_PRICED_ENERGY w_ISO_COSTS w_DISTRIBUTION_ACCESS_CHARGES s.heap s.heap.size (Old.start s) S_Basis_DAYS E_w_DAYS S_Basis_ENERGY E_w_ENERGY S_Basis_ON_PEAK_ENERGY E_w_ON_PEAK_ENERGY S_Basis_OFF_PEAK_ENERGY E_w_OFF_PEAK_ENERGY S_Basis_BILLING_DEMAND_DAYS E_w_BILLING_DEMAND_DAYS S_Basis_METERED_DEMAND_DAYS E_w_METERED_DEMAND_DAYS S_Basis_FIXTURE_DAYS E_w_FIXTURE_DAYS S_Basis_HIGHEST_HOUR_ENERGY E_w_HIGHEST_HOUR_ENERGY S_Basis_GAS_INDEXED_ENERGY E_w_GAS_INDEXED_ENERGY S_Basis_POOL_PRICED_ENERGY E_w_POOL_PRICED_ENERGY S_Basis_ISO_COSTS E_w_ISO_COSTS S_Basis_DISTRIBUTION_ACCESS_CHARGES E_w_DISTRIBUTION_ACCESS_CHARGES hs0 (Fld.ne F_116 F_110 (by decide)) (Fld.ne F_116 F_112 (by decide)) (Fld.ne F_116 F_114 (by decide))
    · exact rm0_4 l s _ hw tables_1 i0 w_DAYS w_ENERGY w_ON_PEAK_ENERGY w_OFF_PEAK_ENERGY w_BILLING_DEMAND_DAYS w_METERED_DEMAND_DAYS w_FIXTURE_DAYS w_HIGHEST_HOUR_ENERGY w_GAS_INDEXED_ENERGY w_POOL_PRICED_ENERGY w_ISO_COSTS w_DISTRIBUTION_ACCESS_CHARGES s.heap s.heap.size (Old.start s) S_Basis_DAYS E_w_DAYS S_Basis_ENERGY E_w_ENERGY S_Basis_ON_PEAK_ENERGY E_w_ON_PEAK_ENERGY S_Basis_OFF_PEAK_ENERGY E_w_OFF_PEAK_ENERGY S_Basis_BILLING_DEMAND_DAYS E_w_BILLING_DEMAND_DAYS S_Basis_METERED_DEMAND_DAYS E_w_METERED_DEMAND_DAYS S_Basis_FIXTURE_DAYS E_w_FIXTURE_DAYS S_Basis_HIGHEST_HOUR_ENERGY E_w_HIGHEST_HOUR_ENERGY S_Basis_GAS_INDEXED_ENERGY E_w_GAS_INDEXED_ENERGY S_Basis_POOL_PRICED_ENERGY E_w_POOL_PRICED_ENERGY S_Basis_ISO_COSTS E_w_ISO_COSTS S_Basis_DISTRIBUTION_ACCESS_CHARGES E_w_DISTRIBUTION_ACCESS_CHARGES hs0 (Fld.ne F_128 F_110 (by decide)) (Fld.ne F_128 F_112 (by decide)) (Fld.ne F_128 F_114 (by decide))
    · exact rm0_5 l s _ hw tables_1 i0 w_DAYS w_ENERGY w_ON_PEAK_ENERGY w_OFF_PEAK_ENERGY w_BILLING_DEMAND_DAYS w_METERED_DEMAND_DAYS w_FIXTURE_DAYS w_HIGHEST_HOUR_ENERGY w_GAS_INDEXED_ENERGY w_POOL_PRICED_ENERGY w_ISO_COSTS w_DISTRIBUTION_ACCESS_CHARGES s.heap s.heap.size (Old.start s) S_Basis_DAYS E_w_DAYS S_Basis_ENERGY E_w_ENERGY S_Basis_ON_PEAK_ENERGY E_w_ON_PEAK_ENERGY S_Basis_OFF_PEAK_ENERGY E_w_OFF_PEAK_ENERGY S_Basis_BILLING_DEMAND_DAYS E_w_BILLING_DEMAND_DAYS S_Basis_METERED_DEMAND_DAYS E_w_METERED_DEMAND_DAYS S_Basis_FIXTURE_DAYS E_w_FIXTURE_DAYS S_Basis_HIGHEST_HOUR_ENERGY E_w_HIGHEST_HOUR_ENERGY S_Basis_GAS_INDEXED_ENERGY E_w_GAS_INDEXED_ENERGY S_Basis_POOL_PRICED_ENERGY E_w_POOL_PRICED_ENERGY S_Basis_ISO_COSTS E_w_ISO_COSTS S_Basis_DISTRIBUTION_ACCESS_CHARGES E_w_DISTRIBUTION_ACCESS_CHARGES hs0 (Fld.ne F_142 F_110 (by decide)) (Fld.ne F_142 F_112 (by decide)) (Fld.ne F_142 F_114 (by decide))
    · exact rm0_6 l s _ hw tables_1 i0 w_DAYS w_ENERGY w_ON_PEAK_ENERGY w_OFF_PEAK_ENERGY w_BILLING_DEMAND_DAYS w_METERED_DEMAND_DAYS w_FIXTURE_DAYS w_HIGHEST_HOUR_ENERGY w_GAS_INDEXED_ENERGY w_POOL_PRICED_ENERGY w_ISO_COSTS w_DISTRIBUTION_ACCESS_CHARGES s.heap s.heap.size (Old.start s) S_Basis_DAYS E_w_DAYS S_Basis_ENERGY E_w_ENERGY S_Basis_ON_PEAK_ENERGY E_w_ON_PEAK_ENERGY S_Basis_OFF_PEAK_ENERGY E_w_OFF_PEAK_ENERGY S_Basis_BILLING_DEMAND_DAYS E_w_BILLING_DEMAND_DAYS S_Basis_METERED_DEMAND_DAYS E_w_METERED_DEMAND_DAYS S_Basis_FIXTURE_DAYS E_w_FIXTURE_DAYS S_Basis_HIGHEST_HOUR_ENERGY E_w_HIGHEST_HOUR_ENERGY S_Basis_GAS_INDEXED_ENERGY E_w_GAS_INDEXED_ENERGY S_Basis_POOL_PRICED_ENERGY E_w_POOL_PRICED_ENERGY S_Basis_ISO_COSTS E_w_ISO_COSTS S_Basis_DISTRIBUTION_ACCESS_CHARGES E_w_DISTRIBUTION_ACCESS_CHARGES hs0 (Fld.ne F_140 F_110 (by decide)) (Fld.ne F_140 F_112 (by decide)) (Fld.ne F_140 F_114 (by decide))
    · exact rm0_7 l s _ hw tables_1 i0 w_DAYS w_ENERGY w_ON_PEAK_ENERGY w_OFF_PEAK_ENERGY w_BILLING_DEMAND_DAYS w_METERED_DEMAND_DAYS w_FIXTURE_DAYS w_HIGHEST_HOUR_ENERGY w_GAS_INDEXED_ENERGY w_POOL_PRICED_ENERGY w_ISO_COSTS w_DISTRIBUTION_ACCESS_CHARGES s.heap s.heap.size (Old.start s) S_Basis_DAYS E_w_DAYS S_Basis_ENERGY E_w_ENERGY S_Basis_ON_PEAK_ENERGY E_w_ON_PEAK_ENERGY S_Basis_OFF_PEAK_ENERGY E_w_OFF_PEAK_ENERGY S_Basis_BILLING_DEMAND_DAYS E_w_BILLING_DEMAND_DAYS S_Basis_METERED_DEMAND_DAYS E_w_METERED_DEMAND_DAYS S_Basis_FIXTURE_DAYS E_w_FIXTURE_DAYS S_Basis_HIGHEST_HOUR_ENERGY E_w_HIGHEST_HOUR_ENERGY S_Basis_GAS_INDEXED_ENERGY E_w_GAS_INDEXED_ENERGY S_Basis_POOL_PRICED_ENERGY E_w_POOL_PRICED_ENERGY S_Basis_ISO_COSTS E_w_ISO_COSTS S_Basis_DISTRIBUTION_ACCESS_CHARGES E_w_DISTRIBUTION_ACCESS_CHARGES hs0 F_120 F_122 (Fld.ne F_110 F_124 (by decide))
    · exact rm0_8 l s _ hw tables_1 i0 w_DAYS w_ENERGY w_ON_PEAK_ENERGY w_OFF_PEAK_ENERGY w_BILLING_DEMAND_DAYS w_METERED_DEMAND_DAYS w_FIXTURE_DAYS w_HIGHEST_HOUR_ENERGY w_GAS_INDEXED_ENERGY w_POOL_PRICED_ENERGY w_ISO_COSTS w_DISTRIBUTION_ACCESS_CHARGES s.heap s.heap.size (Old.start s) S_Basis_DAYS E_w_DAYS S_Basis_ENERGY E_w_ENERGY S_Basis_ON_PEAK_ENERGY E_w_ON_PEAK_ENERGY S_Basis_OFF_PEAK_ENERGY E_w_OFF_PEAK_ENERGY S_Basis_BILLING_DEMAND_DAYS E_w_BILLING_DEMAND_DAYS S_Basis_METERED_DEMAND_DAYS E_w_METERED_DEMAND_DAYS S_Basis_FIXTURE_DAYS E_w_FIXTURE_DAYS S_Basis_HIGHEST_HOUR_ENERGY E_w_HIGHEST_HOUR_ENERGY S_Basis_GAS_INDEXED_ENERGY E_w_GAS_INDEXED_ENERGY S_Basis_POOL_PRICED_ENERGY E_w_POOL_PRICED_ENERGY S_Basis_ISO_COSTS E_w_ISO_COSTS S_Basis_DISTRIBUTION_ACCESS_CHARGES E_w_DISTRIBUTION_ACCESS_CHARGES hs0 (Fld.ne F_112 F_110 (by decide)) F_130 F_132 (Fld.ne F_112 F_124 (by decide))
    · exact rm0_9 l s _ hw tables_1 i0 w_DAYS w_ENERGY w_ON_PEAK_ENERGY w_OFF_PEAK_ENERGY w_BILLING_DEMAND_DAYS w_METERED_DEMAND_DAYS w_FIXTURE_DAYS w_HIGHEST_HOUR_ENERGY w_GAS_INDEXED_ENERGY w_POOL_PRICED_ENERGY w_ISO_COSTS w_DISTRIBUTION_ACCESS_CHARGES s.heap s.heap.size (Old.start s) S_Basis_DAYS E_w_DAYS S_Basis_ENERGY E_w_ENERGY S_Basis_ON_PEAK_ENERGY E_w_ON_PEAK_ENERGY S_Basis_OFF_PEAK_ENERGY E_w_OFF_PEAK_ENERGY S_Basis_BILLING_DEMAND_DAYS E_w_BILLING_DEMAND_DAYS S_Basis_METERED_DEMAND_DAYS E_w_METERED_DEMAND_DAYS S_Basis_FIXTURE_DAYS E_w_FIXTURE_DAYS S_Basis_HIGHEST_HOUR_ENERGY E_w_HIGHEST_HOUR_ENERGY S_Basis_GAS_INDEXED_ENERGY E_w_GAS_INDEXED_ENERGY S_Basis_POOL_PRICED_ENERGY E_w_POOL_PRICED_ENERGY S_Basis_ISO_COSTS E_w_ISO_COSTS S_Basis_DISTRIBUTION_ACCESS_CHARGES E_w_DISTRIBUTION_ACCESS_CHARGES hs0 (Fld.ne F_114 F_110 (by decide)) (Fld.ne F_114 F_112 (by decide)) F_136 F_138 (Fld.ne F_114 F_124 (by decide))
    · exact rm0_10 l s _ hw tables_1 i0 w_DAYS w_ENERGY w_ON_PEAK_ENERGY w_OFF_PEAK_ENERGY w_BILLING_DEMAND_DAYS w_METERED_DEMAND_DAYS w_FIXTURE_DAYS w_HIGHEST_HOUR_ENERGY w_GAS_INDEXED_ENERGY w_POOL_PRICED_ENERGY w_ISO_COSTS w_DISTRIBUTION_ACCESS_CHARGES s.heap s.heap.size (Old.start s) S_Basis_DAYS E_w_DAYS S_Basis_ENERGY E_w_ENERGY S_Basis_ON_PEAK_ENERGY E_w_ON_PEAK_ENERGY S_Basis_OFF_PEAK_ENERGY E_w_OFF_PEAK_ENERGY S_Basis_BILLING_DEMAND_DAYS E_w_BILLING_DEMAND_DAYS S_Basis_METERED_DEMAND_DAYS E_w_METERED_DEMAND_DAYS S_Basis_FIXTURE_DAYS E_w_FIXTURE_DAYS S_Basis_HIGHEST_HOUR_ENERGY E_w_HIGHEST_HOUR_ENERGY S_Basis_GAS_INDEXED_ENERGY E_w_GAS_INDEXED_ENERGY S_Basis_POOL_PRICED_ENERGY E_w_POOL_PRICED_ENERGY S_Basis_ISO_COSTS E_w_ISO_COSTS S_Basis_DISTRIBUTION_ACCESS_CHARGES E_w_DISTRIBUTION_ACCESS_CHARGES hs0 (Fld.ne F_124 F_110 (by decide)) (Fld.ne F_124 F_112 (by decide)) (Fld.ne F_124 F_114 (by decide))
    · exact rm0_11 l s _ hw tables_1 i0 w_DAYS w_ENERGY w_ON_PEAK_ENERGY w_OFF_PEAK_ENERGY w_BILLING_DEMAND_DAYS w_METERED_DEMAND_DAYS w_FIXTURE_DAYS w_HIGHEST_HOUR_ENERGY w_GAS_INDEXED_ENERGY w_POOL_PRICED_ENERGY w_ISO_COSTS w_DISTRIBUTION_ACCESS_CHARGES s.heap s.heap.size (Old.start s) S_Basis_DAYS E_w_DAYS S_Basis_ENERGY E_w_ENERGY S_Basis_ON_PEAK_ENERGY E_w_ON_PEAK_ENERGY S_Basis_OFF_PEAK_ENERGY E_w_OFF_PEAK_ENERGY S_Basis_BILLING_DEMAND_DAYS E_w_BILLING_DEMAND_DAYS S_Basis_METERED_DEMAND_DAYS E_w_METERED_DEMAND_DAYS S_Basis_FIXTURE_DAYS E_w_FIXTURE_DAYS S_Basis_HIGHEST_HOUR_ENERGY E_w_HIGHEST_HOUR_ENERGY S_Basis_GAS_INDEXED_ENERGY E_w_GAS_INDEXED_ENERGY S_Basis_POOL_PRICED_ENERGY E_w_POOL_PRICED_ENERGY S_Basis_ISO_COSTS E_w_ISO_COSTS S_Basis_DISTRIBUTION_ACCESS_CHARGES E_w_DISTRIBUTION_ACCESS_CHARGES hs0 (Fld.ne F_126 F_110 (by decide)) (Fld.ne F_126 F_112 (by decide)) (Fld.ne F_126 F_114 (by decide))
  obtain ⟨n, o, h1, h2, h3, _, L, rfl, ⟨rfl, N⟩, hq⟩ := R p e ha hc hk s m _ below hf ((Spec.applies_iff_loose hf).mp happ).1 ⟨rfl, State.Warmed39.refl s, rfl⟩ trivial
  refine ⟨n, _, h1, h2, h3, hpost _ _ _ _ _ _ ⟨Cond.after_iff.mpr rfl, Cond.after_iff.mpr (eq_i res_at (Term.int_eval (1)) rfl), trivial⟩ ⟨hq.1, hq.2.1, (hq.2.2.sift fun y hy => Or.inr (N y hy)).mono (by decide) (by decide)⟩⟩
theorem main_1_1 : Claimed_1_1 := comes_1 fun _ _ _ _ _ _ h hF => ⟨h.1, hF⟩
theorem main_1_2 : Claimed_1_2 := comes_1 fun _ _ _ _ _ _ h hF => ⟨h.2.1, hF⟩
end Jvm.Pilot.@@N@@
namespace Jvm.Pilot.@@N@@
open Jvm Jvm.ClassFile Sem Op Lib Jvm.Free Jvm.Stand Jvm.Pilot.@@N@@.Jvm.D
/-! MADE BY PROGRAM (witnessworld.py) out of the Statement's table words and the real class files: 13 classes; the members and pool entries that the words name. The judged class is class 1, her method 1. -/
namespace start1
open Jvm.ClassFile
def u (s : String) : CpInfo := .utf8 (stringToUtf16 s)
/-- a pool by its gaps: so many unusable entries, then the entry; so many at the end -/
def gap : Nat → List CpInfo → List CpInfo
  | 0, r => r
  | n + 1, r => .unusable :: gap n r
def poolList (es : List (Nat × CpInfo)) (last : Nat) : List CpInfo := es.foldr (fun e r => gap e.1 (e.2 :: r)) (gap last [])
def pool (es : List (Nat × CpInfo)) (last : Nat) : Array CpInfo := ⟨poolList es last⟩
def fileOf (pool : Array CpInfo) (this : Nat) (attrs : Array Attribute := #[]) (ms : Array MethodInfo := #[]) (fl : Nat := 33) (sup : Nat := 0) (ifs : Array Nat := #[]) (fds : Array FieldInfo := #[]) : ClassFile where
  minorVersion := 0
  majorVersion := 65
  constantPool := pool
  accessFlags := fl
  thisClass := this
  superClass := sup
  interfaces := ifs
  fields := fds
  methods := ms
  attributes := attrs
def plain (name : String) (sup : Option ClassId) : Class where
  name := name
  kind := .ordinary
  loader := none
  accessFlags := 33
  super := sup
  interfaces := #[]
  cf := none
  fields := #[]
  methods := #[]
  instanceTypes := #[]
  staticTypes := #[]
  resolved := #[]
  callSites := []
  init := .initialized
  statics := none
  mirror := none

def pool0 : Array CpInfo := pool [(5, u "<init>"), (0, u "()V"), (1, .class_ 10), (1, u "java/lang/Object")] 113

def k0m0 : Method := { name := "<init>", desc := "()V", sig := { parameters := [], returnType := none }, accessFlags := 1, code := none }
/-- java/lang/Object -/
def k0 : Class := { plain "java/lang/Object" none with
  accessFlags := 33
  interfaces := #[]
  cf := some (fileOf pool0 8 #[] #[{ accessFlags := 1, nameIndex := 5, descriptorIndex := 6, attributes := #[] }] 33 0 #[] #[])
  fields := #[]
  methods := #[k0m0]
  instanceTypes := #[]
  staticTypes := #[]
  resolved := Array.replicate 124 none
  statics := none }

def pool1 : Array CpInfo := pool [(2, .class_ 4), (1, u "java/lang/Object"), (0, u "<init>"), (0, u "()V"), (0, .class_ 8), (0, u "com/example/tarcal/tarcal/schedules/Basis"), (0, .fieldref 7 10), (0, .nameAndType 11 12), (0, u "DAYS"), (0, u "Lcom/example/tarcal/tarcal/schedules/Basis;"), (0, .fieldref 7 14), (0, .nameAndType 15 12), (0, u "ENERGY"), (0, .fieldref 7 17), (0, .nameAndType 18 12), (0, u "ON_PEAK_ENERGY"), (0, .fieldref 7 20), (0, .nameAndType 21 12), (0, u "OFF_PEAK_ENERGY"), (0, .fieldref 7 23), (0, .nameAndType 24 12), (0, u "BILLING_DEMAND_DAYS"), (0, .fieldref 7 26), (0, .nameAndType 27 12), (0, u "METERED_DEMAND_DAYS"), (0, .fieldref 7 29), (0, .nameAndType 30 12), (0, u "FIXTURE_DAYS"), (0, .fieldref 7 32), (0, .nameAndType 33 12), (0, u "HIGHEST_HOUR_ENERGY"), (0, .fieldref 7 35), (0, .nameAndType 36 12), (0, u "GAS_INDEXED_ENERGY"), (0, .fieldref 7 38), (0, .nameAndType 39 12), (0, u "POOL_PRICED_ENERGY"), (0, .fieldref 7 41), (0, .nameAndType 42 12), (0, u "ISO_COSTS"), (0, .fieldref 7 44), (0, .nameAndType 45 12), (0, u "DISTRIBUTION_ACCESS_CHARGES"), (0, .integer 2147483647), (0, .methodref 7 48), (0, .nameAndType 49 50), (0, u "perPeriod"), (0, u "()Z"), (0, .methodref 7 52), (0, .nameAndType 53 50), (0, u "onDemand"), (0, .methodref 7 55), (0, .nameAndType 56 50), (0, u "byTimeOfUse"), (0, .methodref 7 58), (0, .nameAndType 59 50), (0, u "passedThrough"), (0, .class_ 61), (0, u "com/example/tarcal/tarcal/schedules/BasisPerPeriodPinLaw"), (2, u "law"), (0, u "(I)Z")] 5

def k1m0 : Method := { name := "<init>", desc := "()V", sig := { parameters := [], returnType := none }, accessFlags := 1, code := none }
def k1c1 : Code := { maxStack := 4, maxLocals := 6, code := code, exceptionTable := #[], attributes := #[] }
def k1m1 : Method := { name := "law", desc := "(I)Z", sig := { parameters := [.int], returnType := some .boolean }, accessFlags := 9, code := some k1c1 }
/-- com/example/tarcal/tarcal/schedules/BasisPerPeriodPinLaw -/
def k1 : Class := { plain "com/example/tarcal/tarcal/schedules/BasisPerPeriodPinLaw" (some 0) with
  accessFlags := 49
  interfaces := #[]
  cf := some (fileOf pool1 60 #[] #[{ accessFlags := 1, nameIndex := 5, descriptorIndex := 6, attributes := #[] }, { accessFlags := 9, nameIndex := 64, descriptorIndex := 65, attributes := #[] }] 49 2 #[] #[])
  fields := #[]
  methods := #[k1m0, k1m1]
  instanceTypes := #[]
  staticTypes := #[]
  resolved := Array.replicate 71 none
  statics := none }

def pool2 : Array CpInfo := pool [(1, .class_ 2), (0, u "java/lang/constant/Constable"), (0, .class_ 4), (0, u "java/lang/Object")] 6

/-- java/lang/constant/Constable -/
def k2 : Class := { plain "java/lang/constant/Constable" (some 0) with
  accessFlags := 1537
  interfaces := #[]
  cf := some (fileOf pool2 1 #[] #[] 1537 3 #[] #[])
  fields := #[]
  methods := #[]
  instanceTypes := #[]
  staticTypes := #[]
  resolved := Array.replicate 11 none
  statics := none }

def pool3 : Array CpInfo := pool [(1, .class_ 2), (0, u "java/lang/Comparable"), (0, .class_ 4), (0, u "java/lang/Object")] 7

/-- java/lang/Comparable -/
def k3 : Class := { plain "java/lang/Comparable" (some 0) with
  accessFlags := 1537
  interfaces := #[]
  cf := some (fileOf pool3 1 #[] #[] 1537 3 #[] #[])
  fields := #[]
  methods := #[]
  instanceTypes := #[]
  staticTypes := #[]
  resolved := Array.replicate 12 none
  statics := none }

def pool4 : Array CpInfo := pool [(1, .class_ 2), (0, u "java/io/Serializable"), (0, .class_ 4), (0, u "java/lang/Object")] 2

/-- java/io/Serializable -/
def k4 : Class := { plain "java/io/Serializable" (some 0) with
  accessFlags := 1537
  interfaces := #[]
  cf := some (fileOf pool4 1 #[] #[] 1537 3 #[] #[])
  fields := #[]
  methods := #[]
  instanceTypes := #[]
  staticTypes := #[]
  resolved := Array.replicate 7 none
  statics := none }

def pool5 : Array CpInfo := pool [(2, .class_ 4), (1, u "java/lang/Enum"), (0, u "name"), (0, u "Ljava/lang/String;"), (2, u "ordinal"), (0, u "I"), (1, .class_ 14), (1, u "java/lang/Object"), (4, u "hash"), (86, .class_ 108), (1, u "java/lang/Enum$EnumDesc"), (2, .class_ 112), (0, u "java/lang/constant/Constable"), (0, .class_ 114), (0, u "java/lang/Comparable"), (0, .class_ 116), (0, u "java/io/Serializable")] 87

/-- java/lang/Enum -/
def k5 : Class := { plain "java/lang/Enum" (some 0) with
  accessFlags := 1057
  interfaces := #[2, 3, 4]
  cf := some (fileOf pool5 2 #[.nestMembers #[106]] #[] 1057 12 #[111, 113, 115] #[{ accessFlags := 18, nameIndex := 5, descriptorIndex := 6, attributes := #[] }, { accessFlags := 18, nameIndex := 9, descriptorIndex := 10, attributes := #[] }, { accessFlags := 2, nameIndex := 19, descriptorIndex := 10, attributes := #[] }])
  fields := #[{ name := "name", type := (.object "java/lang/String"), accessFlags := 18, slot := 0, constantValue := 0 }, { name := "ordinal", type := .int, accessFlags := 18, slot := 1, constantValue := 0 }, { name := "hash", type := .int, accessFlags := 2, slot := 2, constantValue := 0 }]
  methods := #[]
  instanceTypes := #[(.object "java/lang/String"), .int, .int]
  staticTypes := #[]
  resolved := Array.replicate 204 none
  statics := none }

def pool6 : Array CpInfo := pool [(1, .class_ 2), (0, u "com/example/tarcal/tarcal/schedules/Basis"), (2, u "DAYS"), (0, u "Lcom/example/tarcal/tarcal/schedules/Basis;"), (2, u "ENERGY"), (2, u "ON_PEAK_ENERGY"), (2, u "OFF_PEAK_ENERGY"), (2, u "BILLING_DEMAND_DAYS"), (2, u "METERED_DEMAND_DAYS"), (2, u "FIXTURE_DAYS"), (0, .fieldref 1 26), (0, .nameAndType 27 6), (0, u "HIGHEST_HOUR_ENERGY"), (0, .fieldref 1 29), (0, .nameAndType 30 6), (0, u "GAS_INDEXED_ENERGY"), (0, .fieldref 1 32), (0, .nameAndType 33 6), (0, u "POOL_PRICED_ENERGY"), (0, .fieldref 1 35), (0, .nameAndType 36 6), (0, u "ISO_COSTS"), (2, u "DISTRIBUTION_ACCESS_CHARGES"), (2, u "$VALUES"), (0, u "[Lcom/example/tarcal/tarcal/schedules/Basis;"), (6, .class_ 52), (1, u "java/lang/Enum"), (8, u "keyword"), (0, u "Ljava/lang/String;"), (2, u "unit"), (0, .fieldref 1 67), (0, .nameAndType 68 69), (0, u "onDemand"), (0, u "Z"), (0, .fieldref 1 71), (0, .nameAndType 72 69), (0, u "byTimeOfUse"), (63, u "()Z"), (0, u "passedThrough"), (1, u "perPeriod")] 5

def k6c0 : Code := { maxStack := 1, maxLocals := 1, code := prog_21_method_6_code, exceptionTable := #[], attributes := #[] }
def k6m0 : Method := { name := "onDemand", desc := "()Z", sig := { parameters := [], returnType := some .boolean }, accessFlags := 1, code := some k6c0 }
def k6c1 : Code := { maxStack := 1, maxLocals := 1, code := prog_21_method_7_code, exceptionTable := #[], attributes := #[] }
def k6m1 : Method := { name := "byTimeOfUse", desc := "()Z", sig := { parameters := [], returnType := some .boolean }, accessFlags := 1, code := some k6c1 }
def k6c2 : Code := { maxStack := 2, maxLocals := 1, code := prog_21_method_8_code, exceptionTable := #[], attributes := #[] }
def k6m2 : Method := { name := "passedThrough", desc := "()Z", sig := { parameters := [], returnType := some .boolean }, accessFlags := 1, code := some k6c2 }
def k6c3 : Code := { maxStack := 2, maxLocals := 1, code := prog_21_method_9_code, exceptionTable := #[], attributes := #[] }
def k6m3 : Method := { name := "perPeriod", desc := "()Z", sig := { parameters := [], returnType := some .boolean }, accessFlags := 1, code := some k6c3 }
/-- com/example/tarcal/tarcal/schedules/Basis -/
def k6 : Class := { plain "com/example/tarcal/tarcal/schedules/Basis" (some 5) with
  accessFlags := 16433
  interfaces := #[]
  cf := some (fileOf pool6 1 #[] #[{ accessFlags := 1, nameIndex := 68, descriptorIndex := 136, attributes := #[] }, { accessFlags := 1, nameIndex := 72, descriptorIndex := 136, attributes := #[] }, { accessFlags := 1, nameIndex := 137, descriptorIndex := 136, attributes := #[] }, { accessFlags := 1, nameIndex := 139, descriptorIndex := 136, attributes := #[] }] 16433 50 #[] #[{ accessFlags := 16409, nameIndex := 5, descriptorIndex := 6, attributes := #[] }, { accessFlags := 16409, nameIndex := 9, descriptorIndex := 6, attributes := #[] }, { accessFlags := 16409, nameIndex := 12, descriptorIndex := 6, attributes := #[] }, { accessFlags := 16409, nameIndex := 15, descriptorIndex := 6, attributes := #[] }, { accessFlags := 16409, nameIndex := 18, descriptorIndex := 6, attributes := #[] }, { accessFlags := 16409, nameIndex := 21, descriptorIndex := 6, attributes := #[] }, { accessFlags := 16409, nameIndex := 24, descriptorIndex := 6, attributes := #[] }, { accessFlags := 16409, nameIndex := 27, descriptorIndex := 6, attributes := #[] }, { accessFlags := 16409, nameIndex := 30, descriptorIndex := 6, attributes := #[] }, { accessFlags := 16409, nameIndex := 33, descriptorIndex := 6, attributes := #[] }, { accessFlags := 16409, nameIndex := 36, descriptorIndex := 6, attributes := #[] }, { accessFlags := 16409, nameIndex := 39, descriptorIndex := 6, attributes := #[] }, { accessFlags := 18, nameIndex := 61, descriptorIndex := 62, attributes := #[] }, { accessFlags := 18, nameIndex := 65, descriptorIndex := 62, attributes := #[] }, { accessFlags := 18, nameIndex := 68, descriptorIndex := 69, attributes := #[] }, { accessFlags := 18, nameIndex := 72, descriptorIndex := 69, attributes := #[] }, { accessFlags := 4122, nameIndex := 42, descriptorIndex := 43, attributes := #[] }])
  fields := #[{ name := "DAYS", type := (.object "com/example/tarcal/tarcal/schedules/Basis"), accessFlags := 16409, slot := 0, constantValue := 0 }, { name := "ENERGY", type := (.object "com/example/tarcal/tarcal/schedules/Basis"), accessFlags := 16409, slot := 1, constantValue := 0 }, { name := "ON_PEAK_ENERGY", type := (.object "com/example/tarcal/tarcal/schedules/Basis"), accessFlags := 16409, slot := 2, constantValue := 0 }, { name := "OFF_PEAK_ENERGY", type := (.object "com/example/tarcal/tarcal/schedules/Basis"), accessFlags := 16409, slot := 3, constantValue := 0 }, { name := "BILLING_DEMAND_DAYS", type := (.object "com/example/tarcal/tarcal/schedules/Basis"), accessFlags := 16409, slot := 4, constantValue := 0 }, { name := "METERED_DEMAND_DAYS", type := (.object "com/example/tarcal/tarcal/schedules/Basis"), accessFlags := 16409, slot := 5, constantValue := 0 }, { name := "FIXTURE_DAYS", type := (.object "com/example/tarcal/tarcal/schedules/Basis"), accessFlags := 16409, slot := 6, constantValue := 0 }, { name := "HIGHEST_HOUR_ENERGY", type := (.object "com/example/tarcal/tarcal/schedules/Basis"), accessFlags := 16409, slot := 7, constantValue := 0 }, { name := "GAS_INDEXED_ENERGY", type := (.object "com/example/tarcal/tarcal/schedules/Basis"), accessFlags := 16409, slot := 8, constantValue := 0 }, { name := "POOL_PRICED_ENERGY", type := (.object "com/example/tarcal/tarcal/schedules/Basis"), accessFlags := 16409, slot := 9, constantValue := 0 }, { name := "ISO_COSTS", type := (.object "com/example/tarcal/tarcal/schedules/Basis"), accessFlags := 16409, slot := 10, constantValue := 0 }, { name := "DISTRIBUTION_ACCESS_CHARGES", type := (.object "com/example/tarcal/tarcal/schedules/Basis"), accessFlags := 16409, slot := 11, constantValue := 0 }, { name := "keyword", type := (.object "java/lang/String"), accessFlags := 18, slot := 3, constantValue := 0 }, { name := "unit", type := (.object "java/lang/String"), accessFlags := 18, slot := 4, constantValue := 0 }, { name := "onDemand", type := .boolean, accessFlags := 18, slot := 5, constantValue := 0 }, { name := "byTimeOfUse", type := .boolean, accessFlags := 18, slot := 6, constantValue := 0 }, { name := "$VALUES", type := (.array (.object "com/example/tarcal/tarcal/schedules/Basis")), accessFlags := 4122, slot := 12, constantValue := 0 }]
  methods := #[k6m0, k6m1, k6m2, k6m3]
  instanceTypes := #[(.object "java/lang/String"), .int, .int, (.object "java/lang/String"), (.object "java/lang/String"), .boolean, .boolean]
  staticTypes := #[(.object "com/example/tarcal/tarcal/schedules/Basis"), (.object "com/example/tarcal/tarcal/schedules/Basis"), (.object "com/example/tarcal/tarcal/schedules/Basis"), (.object "com/example/tarcal/tarcal/schedules/Basis"), (.object "com/example/tarcal/tarcal/schedules/Basis"), (.object "com/example/tarcal/tarcal/schedules/Basis"), (.object "com/example/tarcal/tarcal/schedules/Basis"), (.object "com/example/tarcal/tarcal/schedules/Basis"), (.object "com/example/tarcal/tarcal/schedules/Basis"), (.object "com/example/tarcal/tarcal/schedules/Basis"), (.object "com/example/tarcal/tarcal/schedules/Basis"), (.object "com/example/tarcal/tarcal/schedules/Basis"), (.array (.object "com/example/tarcal/tarcal/schedules/Basis"))]
  resolved := Array.replicate 145 none
  statics := some 0 }

def pool7 : Array CpInfo := pool [(1, u "java/lang/Cloneable"), (0, .class_ 1), (0, u "java/lang/Object"), (0, .class_ 3)] 3

/-- java/lang/Cloneable -/
def k7 : Class := { plain "java/lang/Cloneable" (some 0) with
  accessFlags := 1537
  interfaces := #[]
  cf := some (fileOf pool7 2 #[] #[] 1537 4 #[] #[])
  fields := #[]
  methods := #[]
  instanceTypes := #[]
  staticTypes := #[]
  resolved := Array.replicate 8 none
  statics := none }

/-- the primitive byte -/
def k8 : Class := { plain "byte" none with kind := .primitive 'B', accessFlags := 0x411 }
/-- [B -/
def k9 : Class := { plain "[B" (some 0) with kind := .array 8 .byte, interfaces := #[7, 4], accessFlags := 1041 }

/-- the primitive int -/
def k10 : Class := { plain "int" none with kind := .primitive 'I', accessFlags := 0x411 }
/-- [I -/
def k11 : Class := { plain "[I" (some 0) with kind := .array 10 .int, interfaces := #[7, 4], accessFlags := 1041 }

/-- [Lcom/example/tarcal/tarcal/schedules/Basis; -/
def k12 : Class := { plain "[Lcom/example/tarcal/tarcal/schedules/Basis;" (some 0) with kind := .array 6 (.object "com/example/tarcal/tarcal/schedules/Basis"), interfaces := #[7, 4], accessFlags := 1041 }

def heap : Heap := #[{ cls := 6, slots := #[.ref 1, .ref 2, .ref 3, .ref 4, .ref 5, .ref 6, .ref 7, .ref 8, .ref 9, .ref 10, .ref 11, .ref 12, .null], vm := .statics 6 },
  { cls := 6, slots := #[.null, .int 0, .int 0, .null, .null, .int 0, .int 0], vm := .none },
  { cls := 6, slots := #[.null, .int 1, .int 0, .null, .null, .int 0, .int 0], vm := .none },
  { cls := 6, slots := #[.null, .int 2, .int 0, .null, .null, .int 0, .int 1], vm := .none },
  { cls := 6, slots := #[.null, .int 3, .int 0, .null, .null, .int 0, .int 1], vm := .none },
  { cls := 6, slots := #[.null, .int 4, .int 0, .null, .null, .int 1, .int 0], vm := .none },
  { cls := 6, slots := #[.null, .int 5, .int 0, .null, .null, .int 1, .int 0], vm := .none },
  { cls := 6, slots := #[.null, .int 6, .int 0, .null, .null, .int 0, .int 0], vm := .none },
  { cls := 6, slots := #[.null, .int 7, .int 0, .null, .null, .int 0, .int 0], vm := .none },
  { cls := 6, slots := #[.null, .int 8, .int 0, .null, .null, .int 0, .int 0], vm := .none },
  { cls := 6, slots := #[.null, .int 9, .int 0, .null, .null, .int 0, .int 0], vm := .none },
  { cls := 6, slots := #[.null, .int 10, .int 0, .null, .null, .int 0, .int 0], vm := .none },
  { cls := 6, slots := #[.null, .int 11, .int 0, .null, .null, .int 0, .int 0], vm := .none }]
def classes : Array Class := #[k0, k1, k2, k3, k4, k5, k6, k7, k8, k9, k10, k11, k12]
def interned : List (Array UInt16 × Addr) := []
def slotsUsed : Nat := 97
def theMethod : MethodId := ⟨1, 1⟩
def args0 : Array Value := #[.int 5]
def aboutOver (below : List Frame) : State where
  vm := { classes := classes, interned := interned.toArray }
  heap := heap
  slotsUsed := slotsUsed
  threads := #[{ frames := .invoking theMethod args0 :: below }]
def below0 : List Frame := [.native { method := ⟨0, 0⟩, args := #[] }]
def about1 : State := aboutOver below0
def p0 : Program := .bare "" "" ""
def e0 : Env := launch0.env 0 0 0
theorem w_frames : about1.frames = Frame.invoking theMethod args0 :: below0 := rfl
set_option maxRecDepth 65536 in
theorem w_args : argsFit about1.vm theMethod args0 = true := by decide +kernel
set_option maxRecDepth 65536 in
theorem w_heap : heapFits about1 = true := by decide +kernel
set_option maxRecDepth 65536 in
theorem w_runnable : about1.curStatus? = some .runnable := by decide +kernel
set_option maxRecDepth 65536 in
theorem w_alone : about1.alone = true := by decide +kernel
set_option maxRecDepth 65536 in
theorem w_named : about1.methodNamed? x = some theMethod := by decide +kernel
set_option maxRecDepth 65536 in
theorem w_hears : about1.hears theMethod below0 = true := by decide +kernel
set_option maxRecDepth 65536 in
theorem w_ripe : about1.ripe theMethod args0 below0 = true := by decide +kernel
theorem w_running : about1.status = .running := rfl
set_option maxRecDepth 65536 in
theorem w_room : about1.hasRoom e0.platform room_1 = true :=
  launch0.hasRoom_least _ room_1 (by decide +kernel) (by decide +kernel) (by decide +kernel) (by decide +kernel) (by decide +kernel) (by decide +kernel)
theorem allAtoms_all (ts : List Jvm.Cond) (a : Array Jvm.Value) (st : Jvm.State) : (allAtoms ts).before a st = ts.all (fun c => c.before a st) := by
  induction ts with
  | nil => rfl
  | cons c t ih =>
    show (Jvm.Cond.and c (allAtoms t)).before a st = _
    rw [Jvm.Cond.before_and, ih, List.all_cons]
def words1 : List Jvm.Cond := Jvm.Cond.code x code maxLocals ret :: tables_1
/-- a 'code' word, met by the world's own term for the bytes: nothing is compared byte by byte -/
theorem code_word {y : MethodName} {bytes : ByteArray} {mx : Nat} {rt : Option FieldType} {a : Array Value} {s : State} {m : MethodId} {meth : Method} {c : Code} (h1 : s.methodNamed? y = some m) (h2 : s.vm.method? m = some meth) (h3 : meth.code = some c) (h4 : c.code = bytes)
    (h5 : (c.maxLocals == mx && c.exceptionTable.isEmpty && decide (c.maxStack ≤ mostOperands) && decide (meth.sig.returnType = rt) && !meth.locks && decide (parseMethodDescriptor y.desc = some meth.sig)) = true) : (Jvm.Cond.code y bytes mx rt).before a s = true := by
  simp only [Bool.and_eq_true, beq_iff_eq, Bool.not_eq_true', decide_eq_true_eq] at h5
  obtain ⟨⟨⟨⟨⟨g1, g2⟩, g3⟩, g4⟩, g5⟩, g6⟩ := h5
  simp [Cond.before, Cond.holds, Cond.value, h1, h2, h3, h4, g1, g2, g3, g4, g5, g6]
def isCode : Jvm.Cond → Bool
  | .code _ _ _ _ => true
  | _ => false
theorem all_split {L : List Jvm.Cond} {P : Jvm.Cond → Bool} (h1 : L.all (fun c => isCode c || P c) = true) (h2 : ∀ c ∈ L.filter isCode, P c = true) : L.all P = true := by
  refine List.all_eq_true.mpr fun c hc => ?_
  have h := List.all_eq_true.mp h1 c hc
  rcases Bool.eq_false_or_eq_true (isCode c) with hi | hi
  · exact h2 c (List.mem_filter.mpr ⟨hc, hi⟩)
  · simpa [hi] using h
set_option maxRecDepth 65536 in
theorem w_c0 : (Jvm.Cond.code x code maxLocals ret).before args0 about1 = true := code_word (m := ⟨1, 1⟩) (meth := k1m1) (c := k1c1) (by decide +kernel) rfl rfl rfl (by decide +kernel)
set_option maxRecDepth 65536 in
theorem w_c1 : (Jvm.Cond.code ({ cls := "com/example/tarcal/tarcal/schedules/Basis", name := "perPeriod", desc := "()Z" } : Jvm.MethodName) prog_21_method_9_code (1 : Nat) (Option.some Jvm.ClassFile.FieldType.boolean)).before args0 about1 = true := code_word (m := ⟨6, 3⟩) (meth := k6m3) (c := k6c3) (by decide +kernel) rfl rfl rfl (by decide +kernel)
set_option maxRecDepth 65536 in
theorem w_c2 : (Jvm.Cond.code ({ cls := "com/example/tarcal/tarcal/schedules/Basis", name := "onDemand", desc := "()Z" } : Jvm.MethodName) prog_21_method_6_code (1 : Nat) (Option.some Jvm.ClassFile.FieldType.boolean)).before args0 about1 = true := code_word (m := ⟨6, 0⟩) (meth := k6m0) (c := k6c0) (by decide +kernel) rfl rfl rfl (by decide +kernel)
set_option maxRecDepth 65536 in
theorem w_c3 : (Jvm.Cond.code ({ cls := "com/example/tarcal/tarcal/schedules/Basis", name := "byTimeOfUse", desc := "()Z" } : Jvm.MethodName) prog_21_method_7_code (1 : Nat) (Option.some Jvm.ClassFile.FieldType.boolean)).before args0 about1 = true := code_word (m := ⟨6, 1⟩) (meth := k6m1) (c := k6c1) (by decide +kernel) rfl rfl rfl (by decide +kernel)
set_option maxRecDepth 65536 in
theorem w_c4 : (Jvm.Cond.code ({ cls := "com/example/tarcal/tarcal/schedules/Basis", name := "passedThrough", desc := "()Z" } : Jvm.MethodName) prog_21_method_8_code (1 : Nat) (Option.some Jvm.ClassFile.FieldType.boolean)).before args0 about1 = true := code_word (m := ⟨6, 2⟩) (meth := k6m2) (c := k6c2) (by decide +kernel) rfl rfl rfl (by decide +kernel)
def codes1 : List Jvm.Cond := [Jvm.Cond.code x code maxLocals ret, Jvm.Cond.code ({ cls := "com/example/tarcal/tarcal/schedules/Basis", name := "perPeriod", desc := "()Z" } : Jvm.MethodName) prog_21_method_9_code (1 : Nat) (Option.some Jvm.ClassFile.FieldType.boolean), Jvm.Cond.code ({ cls := "com/example/tarcal/tarcal/schedules/Basis", name := "onDemand", desc := "()Z" } : Jvm.MethodName) prog_21_method_6_code (1 : Nat) (Option.some Jvm.ClassFile.FieldType.boolean), Jvm.Cond.code ({ cls := "com/example/tarcal/tarcal/schedules/Basis", name := "byTimeOfUse", desc := "()Z" } : Jvm.MethodName) prog_21_method_7_code (1 : Nat) (Option.some Jvm.ClassFile.FieldType.boolean), Jvm.Cond.code ({ cls := "com/example/tarcal/tarcal/schedules/Basis", name := "passedThrough", desc := "()Z" } : Jvm.MethodName) prog_21_method_8_code (1 : Nat) (Option.some Jvm.ClassFile.FieldType.boolean)]
set_option maxRecDepth 65536 in
theorem codes_eq : words1.filter isCode = codes1 := rfl
theorem w_codes : ∀ c ∈ words1.filter isCode, c.before args0 about1 = true := by
  rw [codes_eq]
  intro c hc
  simp only [codes1, List.mem_cons, List.not_mem_nil, or_false] at hc
  rcases hc with rfl | rfl | rfl | rfl | rfl
  · exact w_c0
  · exact w_c1
  · exact w_c2
  · exact w_c3
  · exact w_c4
set_option maxRecDepth 65536 in
theorem w_t1 : (words1.take 24).all (fun c => isCode c || c.before args0 about1) = true := by decide +kernel
set_option maxRecDepth 65536 in
theorem w_t2 : ((words1.drop 24).take 24).all (fun c => isCode c || c.before args0 about1) = true := by decide +kernel
set_option maxRecDepth 65536 in
theorem w_t3 : ((words1.drop 24).drop 24).all (fun c => isCode c || c.before args0 about1) = true := by decide +kernel
theorem w_tables : (allAtoms (Jvm.Cond.code x code maxLocals ret :: tables_1)).before args0 about1 = true := by
  rw [allAtoms_all]
  show words1.all (fun c => c.before args0 about1) = true
  refine all_split ?_ w_codes
  rw [← List.take_append_drop 24 words1, List.all_append, w_t1, ← List.take_append_drop 24 (words1.drop 24), List.all_append, w_t2, w_t3]
  rfl
set_option maxRecDepth 65536 in
theorem w_case : (Jvm.Cond.and given_1 narrow_1).before args0 about1 = true := by decide +kernel
theorem w_applies : (headSpec (Jvm.Cond.code x code maxLocals ret :: tables_1) room_1).applies x e0.platform about1 = true :=
  (Spec.applies_iff w_frames).mpr ⟨w_running, w_runnable, w_alone, w_named, w_hears, w_ripe, w_room, w_tables⟩
theorem atStart : AtStart classFile x code maxLocals ret World_1 tables_1 room_1 Calls_1 rest_1 Pre_1 launch0 p0 e0 about1 theMethod args0 below0 :=
  ⟨lists_1, trivial, launch0.admits_env _ _ _, launch0.least_env, fairChoices_fair.cas, fairChoices_fair.clock, w_frames, w_args, w_heap, w_applies, trivial, trivial, w_case⟩
end start1
theorem witness_1 : WitnessClaimed_1 := ⟨start1.p0, start1.e0, start1.about1, start1.theMethod, start1.args0, start1.below0, start1.atStart⟩
end Jvm.Pilot.@@N@@
