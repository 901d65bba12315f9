import JvmDerived
import JvmDerived.Pilot.@@N@@Statement
import JvmDerived.Pilot.@@N@@Code
set_option linter.unusedVariables false
set_option linter.unusedSimpArgs false
namespace Jvm.RoadKit
open Sem ClassFile Op Lib Jvm.Stand Jvm.Free Jvm.LawKit
section New
variable {p : Program} {l : Launch} {e : Env} {R : Room} {s : State} {m : MethodId} {args : Array Value} {below : List Frame} {meth : Method} {c : Code} {T : State} {locs : List Loc} {cells slots : Nat}
theorem retI (X : Stand p l e R s m args below meth c T locs cells slots) (hx : p.tables.exec = Jvm.exec) {pc : Nat} {Ls : Array Slot} {z : Int32} {rest : List Value} (hret : meth.sig.returnType = some .int) (hd : decode c.code pc = .ok (.ireturn, 1)) {fs : List Frame}
    (hl : ∀ (f : JFrame) (acts : List Action), f.method = m → f.locked = none → f.entered = [] → (doReturn e (T.setTop f) acts (some (.int z))).1 = T.setFrames fs) : Steps p.tables e below (T.setTop (mkF m pc Ls (.int z :: rest))) (T.setFrames fs) := by
  have hm' : T.vm.method? m = some meth := X.method'
  have hn : narrow .int (.int z) = .int z := rfl
  show Steps p.tables e below (T.setTop { method := m, pc := pc, locals := Ls, stack := _ :: rest, locked := none }) _
  jvm_step X.here [X.here.top, hx, hd, hm', hret, hn]
  first | (intro acts; rw [hl _ acts rfl rfl rfl]) | rw [hl _ _ rfl rfl rfl]
  exact Steps.refl _
end New
end Jvm.RoadKit
namespace Jvm.Pilot.@@N@@
open Jvm Jvm.ClassFile Sem Op Lib Jvm.Free Jvm.Stand Jvm.LawKit Jvm.RoadKit Bundle Jvm.Pilot.@@N@@.Jvm.D
theorem own_eqI {args : Array Value} {s : State} {t : Term} {k : Int32} (h : (Jvm.Cond.eq t (.int k)).value args s none s [] = some true) : t.eval args s none [] s = some (.int k) := by
  obtain ⟨x, y, hx, hy, -, k2⟩ := cmp_v (Or.inl h)
  obtain rfl : y = .int k := (Option.some.inj ((Term.int_eval k).symm.trans hy)).symm
  obtain ⟨z, rfl⟩ := k2
  have := gotT (Cond.eq_ints hx (Term.int_eval k)) h
  rw [hx, this]
def Q0 (n0 : Nat) (v : Option Value) (L : List Loc) : Prop := v = some (.int 1) ∧ Fr n0 L
theorem own_mod21 (x : Int32) : ((x &&& (2147483647 : Int32)) % (21 : Int32)) = (0 : Int32) ∨ ((x &&& (2147483647 : Int32)) % (21 : Int32)) = (1 : Int32) ∨ ((x &&& (2147483647 : Int32)) % (21 : Int32)) = (2 : Int32) ∨ ((x &&& (2147483647 : Int32)) % (21 : Int32)) = (3 : Int32) ∨ ((x &&& (2147483647 : Int32)) % (21 : Int32)) = (4 : Int32) ∨ ((x &&& (2147483647 : Int32)) % (21 : Int32)) = (5 : Int32) ∨ ((x &&& (2147483647 : Int32)) % (21 : Int32)) = (6 : Int32) ∨ ((x &&& (2147483647 : Int32)) % (21 : Int32)) = (7 : Int32) ∨ ((x &&& (2147483647 : Int32)) % (21 : Int32)) = (8 : Int32) ∨ ((x &&& (2147483647 : Int32)) % (21 : Int32)) = (9 : Int32) ∨ ((x &&& (2147483647 : Int32)) % (21 : Int32)) = (10 : Int32) ∨ ((x &&& (2147483647 : Int32)) % (21 : Int32)) = (11 : Int32) ∨ ((x &&& (2147483647 : Int32)) % (21 : Int32)) = (12 : Int32) ∨ ((x &&& (2147483647 : Int32)) % (21 : Int32)) = (13 : Int32) ∨ ((x &&& (2147483647 : Int32)) % (21 : Int32)) = (14 : Int32) ∨ ((x &&& (2147483647 : Int32)) % (21 : Int32)) = (15 : Int32) ∨ ((x &&& (2147483647 : Int32)) % (21 : Int32)) = (16 : Int32) ∨ ((x &&& (2147483647 : Int32)) % (21 : Int32)) = (17 : Int32) ∨ ((x &&& (2147483647 : Int32)) % (21 : Int32)) = (18 : Int32) ∨ ((x &&& (2147483647 : Int32)) % (21 : Int32)) = (19 : Int32) ∨ ((x &&& (2147483647 : Int32)) % (21 : Int32)) = (20 : Int32) := by
  have e1 := c_mask x 2147483647 31 (by decide) (by decide)
  have e2 := (c_irem (x &&& (2147483647 : Int32)) (21 : Int32) 21 (by decide)).1 (by omega)
  generalize ((x &&& (2147483647 : Int32)) % (21 : Int32)) = r at *
  have hd : r.toInt = 0 ∨ r.toInt = 1 ∨ r.toInt = 2 ∨ r.toInt = 3 ∨ r.toInt = 4 ∨ r.toInt = 5 ∨ r.toInt = 6 ∨ r.toInt = 7 ∨ r.toInt = 8 ∨ r.toInt = 9 ∨ r.toInt = 10 ∨ r.toInt = 11 ∨ r.toInt = 12 ∨ r.toInt = 13 ∨ r.toInt = 14 ∨ r.toInt = 15 ∨ r.toInt = 16 ∨ r.toInt = 17 ∨ r.toInt = 18 ∨ r.toInt = 19 ∨ r.toInt = 20 := by omega
  rcases hd with h | h | h | h | h | h | h | h | h | h | h | h | h | h | h | h | h | h | h | h | h
  · exact Or.inl (Int32.toInt_inj.mp (h.trans (by decide)))
  · exact Or.inr (Or.inl (Int32.toInt_inj.mp (h.trans (by decide))))
  · exact Or.inr (Or.inr (Or.inl (Int32.toInt_inj.mp (h.trans (by decide)))))
  · exact Or.inr (Or.inr (Or.inr (Or.inl (Int32.toInt_inj.mp (h.trans (by decide))))))
  · exact Or.inr (Or.inr (Or.inr (Or.inr (Or.inl (Int32.toInt_inj.mp (h.trans (by decide)))))))
  · exact Or.inr (Or.inr (Or.inr (Or.inr (Or.inr (Or.inl (Int32.toInt_inj.mp (h.trans (by decide))))))))
  · exact Or.inr (Or.inr (Or.inr (Or.inr (Or.inr (Or.inr (Or.inl (Int32.toInt_inj.mp (h.trans (by decide)))))))))
  · exact Or.inr (Or.inr (Or.inr (Or.inr (Or.inr (Or.inr (Or.inr (Or.inl (Int32.toInt_inj.mp (h.trans (by decide))))))))))
  · exact Or.inr (Or.inr (Or.inr (Or.inr (Or.inr (Or.inr (Or.inr (Or.inr (Or.inl (Int32.toInt_inj.mp (h.trans (by decide)))))))))))
  · exact Or.inr (Or.inr (Or.inr (Or.inr (Or.inr (Or.inr (Or.inr (Or.inr (Or.inr (Or.inl (Int32.toInt_inj.mp (h.trans (by decide))))))))))))
  · exact Or.inr (Or.inr (Or.inr (Or.inr (Or.inr (Or.inr (Or.inr (Or.inr (Or.inr (Or.inr (Or.inl (Int32.toInt_inj.mp (h.trans (by decide)))))))))))))
  · exact Or.inr (Or.inr (Or.inr (Or.inr (Or.inr (Or.inr (Or.inr (Or.inr (Or.inr (Or.inr (Or.inr (Or.inl (Int32.toInt_inj.mp (h.trans (by decide))))))))))))))
  · exact Or.inr (Or.inr (Or.inr (Or.inr (Or.inr (Or.inr (Or.inr (Or.inr (Or.inr (Or.inr (Or.inr (Or.inr (Or.inl (Int32.toInt_inj.mp (h.trans (by decide)))))))))))))))
  · exact Or.inr (Or.inr (Or.inr (Or.inr (Or.inr (Or.inr (Or.inr (Or.inr (Or.inr (Or.inr (Or.inr (Or.inr (Or.inr (Or.inl (Int32.toInt_inj.mp (h.trans (by decide))))))))))))))))
  · exact Or.inr (Or.inr (Or.inr (Or.inr (Or.inr (Or.inr (Or.inr (Or.inr (Or.inr (Or.inr (Or.inr (Or.inr (Or.inr (Or.inr (Or.inl (Int32.toInt_inj.mp (h.trans (by decide)))))))))))))))))
  · exact Or.inr (Or.inr (Or.inr (Or.inr (Or.inr (Or.inr (Or.inr (Or.inr (Or.inr (Or.inr (Or.inr (Or.inr (Or.inr (Or.inr (Or.inr (Or.inl (Int32.toInt_inj.mp (h.trans (by decide))))))))))))))))))
  · exact Or.inr (Or.inr (Or.inr (Or.inr (Or.inr (Or.inr (Or.inr (Or.inr (Or.inr (Or.inr (Or.inr (Or.inr (Or.inr (Or.inr (Or.inr (Or.inr (Or.inl (Int32.toInt_inj.mp (h.trans (by decide)))))))))))))))))))
  · exact Or.inr (Or.inr (Or.inr (Or.inr (Or.inr (Or.inr (Or.inr (Or.inr (Or.inr (Or.inr (Or.inr (Or.inr (Or.inr (Or.inr (Or.inr (Or.inr (Or.inr (Or.inl (Int32.toInt_inj.mp (h.trans (by decide))))))))))))))))))))
  · exact Or.inr (Or.inr (Or.inr (Or.inr (Or.inr (Or.inr (Or.inr (Or.inr (Or.inr (Or.inr (Or.inr (Or.inr (Or.inr (Or.inr (Or.inr (Or.inr (Or.inr (Or.inr (Or.inl (Int32.toInt_inj.mp (h.trans (by decide)))))))))))))))))))))
  · exact Or.inr (Or.inr (Or.inr (Or.inr (Or.inr (Or.inr (Or.inr (Or.inr (Or.inr (Or.inr (Or.inr (Or.inr (Or.inr (Or.inr (Or.inr (Or.inr (Or.inr (Or.inr (Or.inr (Or.inl (Int32.toInt_inj.mp (h.trans (by decide))))))))))))))))))))))
  · exact Or.inr (Or.inr (Or.inr (Or.inr (Or.inr (Or.inr (Or.inr (Or.inr (Or.inr (Or.inr (Or.inr (Or.inr (Or.inr (Or.inr (Or.inr (Or.inr (Or.inr (Or.inr (Or.inr (Or.inr (Int32.toInt_inj.mp (h.trans (by decide))))))))))))))))))))))
theorem own_b21 (x : Int32) : ¬ (((x &&& (2147483647 : Int32)) % (21 : Int32)) < (0 : Int32)) ∧ ((x &&& (2147483647 : Int32)) % (21 : Int32)) < (21 : Int32) := by
  rcases own_mod21 x with h | h | h | h | h | h | h | h | h | h | h | h | h | h | h | h | h | h | h | h | h <;> rw [h] <;> decide
theorem own_lt {a b : Int32} (ha : ¬ a < 0) (hb : ¬ b < 0) (h : a < b) : (a - b) < 0 := by
  rw [Int32.lt_iff_toInt_lt] at *
  have := c_isub a b; have := rng32 a; have := rng32 b; have := rng32 (a - b)
  have z : (0 : Int32).toInt = 0 := by decide
  omega
theorem own_ge {a b : Int32} (ha : ¬ a < 0) (hb : ¬ b < 0) (h : ¬ a < b) : ¬ (a - b) < 0 := by
  rw [Int32.lt_iff_toInt_lt] at *
  have := c_isub a b; have := rng32 a; have := rng32 b; have := rng32 (a - b)
  have z : (0 : Int32).toInt = 0 := by decide
  omega
theorem own_negsub (a b : Int32) : (-(a - b)) = (b - a) := by
  apply Int32.toInt_inj.mp
  have := c_ineg (a - b); have := c_isub a b; have := c_isub b a; have := rng32 (-(a - b)); have := rng32 (b - a)
  omega
theorem wd0 {a0 : Array Value} {Z : State} (hw : ∀ d ∈ tables_1, d.before a0 Z = true) : (Jvm.Cond.constant "com/example/facility_atlas/facilityatlas/RatingGradesApartPinLaw" (73 : Nat) (2147483647 : Int32)).before a0 Z = true := hw _ (List.mem_of_getElem? (i := 0) rfl)
theorem wd1 {a0 : Array Value} {Z : State} (hw : ∀ d ∈ tables_1, d.before a0 Z = true) : (Jvm.Cond.methodLink "com/example/facility_atlas/facilityatlas/RatingGradesApartPinLaw" (74 : Nat) ({ cls := "com/example/facility_atlas/facilityatlas/RatingGradesApartPinLaw", name := "grade", desc := "(I)Lcom/example/facility_atlas/facilityatlas/Rating;" } : Jvm.MethodName)).before a0 Z = true := hw _ (List.mem_of_getElem? (i := 1) rfl)
theorem wd2 {a0 : Array Value} {Z : State} (hw : ∀ d ∈ tables_1, d.before a0 Z = true) : (Jvm.Cond.static ({ cls := "com/example/facility_atlas/facilityatlas/RatingGradesApartPinLaw", name := "grade", desc := "(I)Lcom/example/facility_atlas/facilityatlas/Rating;" } : Jvm.MethodName)).before a0 Z = true := hw _ (List.mem_of_getElem? (i := 2) rfl)
theorem wd3 {a0 : Array Value} {Z : State} (hw : ∀ d ∈ tables_1, d.before a0 Z = true) : (Jvm.Cond.initialized "com/example/facility_atlas/facilityatlas/RatingGradesApartPinLaw").before a0 Z = true := hw _ (List.mem_of_getElem? (i := 3) rfl)
theorem wd4 {a0 : Array Value} {Z : State} (hw : ∀ d ∈ tables_1, d.before a0 Z = true) : (Jvm.Cond.code ({ cls := "com/example/facility_atlas/facilityatlas/RatingGradesApartPinLaw", name := "grade", desc := "(I)Lcom/example/facility_atlas/facilityatlas/Rating;" } : Jvm.MethodName) method_2_code (1 : Nat) (Option.some (Jvm.ClassFile.FieldType.object "com/example/facility_atlas/facilityatlas/Rating"))).before a0 Z = true := hw _ (List.mem_of_getElem? (i := 4) rfl)
theorem wd5 {a0 : Array Value} {Z : State} (hw : ∀ d ∈ tables_1, d.before a0 Z = true) : (Jvm.Cond.fieldLink "com/example/facility_atlas/facilityatlas/RatingGradesApartPinLaw" (7 : Nat) "com/example/facility_atlas/facilityatlas/Rating" "AAA" "Lcom/example/facility_atlas/facilityatlas/Rating;").before a0 Z = true := hw _ (List.mem_of_getElem? (i := 5) rfl)
theorem wd6 {a0 : Array Value} {Z : State} (hw : ∀ d ∈ tables_1, d.before a0 Z = true) : (Jvm.Cond.initialized "com/example/facility_atlas/facilityatlas/Rating").before a0 Z = true := hw _ (List.mem_of_getElem? (i := 6) rfl)
theorem wd7 {a0 : Array Value} {Z : State} (hw : ∀ d ∈ tables_1, d.before a0 Z = true) : (Jvm.Cond.laysStatic "com/example/facility_atlas/facilityatlas/Rating" "AAA" "Lcom/example/facility_atlas/facilityatlas/Rating;").before a0 Z = true := hw _ (List.mem_of_getElem? (i := 7) rfl)
theorem wd8 {a0 : Array Value} {Z : State} (hw : ∀ d ∈ tables_1, d.before a0 Z = true) : (Jvm.Cond.fieldLink "com/example/facility_atlas/facilityatlas/RatingGradesApartPinLaw" (19 : Nat) "com/example/facility_atlas/facilityatlas/Rating" "AA_MINUS" "Lcom/example/facility_atlas/facilityatlas/Rating;").before a0 Z = true := hw _ (List.mem_of_getElem? (i := 8) rfl)
theorem wd9 {a0 : Array Value} {Z : State} (hw : ∀ d ∈ tables_1, d.before a0 Z = true) : (Jvm.Cond.laysStatic "com/example/facility_atlas/facilityatlas/Rating" "AA_MINUS" "Lcom/example/facility_atlas/facilityatlas/Rating;").before a0 Z = true := hw _ (List.mem_of_getElem? (i := 9) rfl)
theorem wd10 {a0 : Array Value} {Z : State} (hw : ∀ d ∈ tables_1, d.before a0 Z = true) : (Jvm.Cond.methodLink "com/example/facility_atlas/facilityatlas/RatingGradesApartPinLaw" (80 : Nat) ({ cls := "com/example/facility_atlas/facilityatlas/Rating", name := "gradesApart", desc := "(Lcom/example/facility_atlas/facilityatlas/Rating;)I" } : Jvm.MethodName)).before a0 Z = true := hw _ (List.mem_of_getElem? (i := 10) rfl)
theorem wd11 {a0 : Array Value} {Z : State} (hw : ∀ d ∈ tables_1, d.before a0 Z = true) : (Jvm.Cond.declares ({ cls := "com/example/facility_atlas/facilityatlas/Rating", name := "gradesApart", desc := "(Lcom/example/facility_atlas/facilityatlas/Rating;)I" } : Jvm.MethodName)).before a0 Z = true := hw _ (List.mem_of_getElem? (i := 11) rfl)
theorem wd12 {a0 : Array Value} {Z : State} (hw : ∀ d ∈ tables_1, d.before a0 Z = true) : (Jvm.Cond.instanceMethod ({ cls := "com/example/facility_atlas/facilityatlas/Rating", name := "gradesApart", desc := "(Lcom/example/facility_atlas/facilityatlas/Rating;)I" } : Jvm.MethodName)).before a0 Z = true := hw _ (List.mem_of_getElem? (i := 12) rfl)
theorem wd13 {a0 : Array Value} {Z : State} (hw : ∀ d ∈ tables_1, d.before a0 Z = true) : (Jvm.Cond.selects "com/example/facility_atlas/facilityatlas/Rating" ({ cls := "com/example/facility_atlas/facilityatlas/Rating", name := "gradesApart", desc := "(Lcom/example/facility_atlas/facilityatlas/Rating;)I" } : Jvm.MethodName) ({ cls := "com/example/facility_atlas/facilityatlas/Rating", name := "gradesApart", desc := "(Lcom/example/facility_atlas/facilityatlas/Rating;)I" } : Jvm.MethodName)).before a0 Z = true := hw _ (List.mem_of_getElem? (i := 13) rfl)
theorem wd14 {a0 : Array Value} {Z : State} (hw : ∀ d ∈ tables_1, d.before a0 Z = true) : (Jvm.Cond.code ({ cls := "com/example/facility_atlas/facilityatlas/Rating", name := "gradesApart", desc := "(Lcom/example/facility_atlas/facilityatlas/Rating;)I" } : Jvm.MethodName) prog_47_method_6_code (2 : Nat) (Option.some Jvm.ClassFile.FieldType.int)).before a0 Z = true := hw _ (List.mem_of_getElem? (i := 14) rfl)
theorem wd15 {a0 : Array Value} {Z : State} (hw : ∀ d ∈ tables_1, d.before a0 Z = true) : (Jvm.Cond.methodLink "com/example/facility_atlas/facilityatlas/Rating" (110 : Nat) ({ cls := "com/example/facility_atlas/facilityatlas/Rating", name := "ordinal", desc := "()I" } : Jvm.MethodName)).before a0 Z = true := hw _ (List.mem_of_getElem? (i := 15) rfl)
theorem wd16 {a0 : Array Value} {Z : State} (hw : ∀ d ∈ tables_1, d.before a0 Z = true) : (Jvm.Cond.sameMethod "com/example/facility_atlas/facilityatlas/Rating" "java/lang/Enum" "ordinal" "()I").before a0 Z = true := hw _ (List.mem_of_getElem? (i := 16) rfl)
theorem wd17 {a0 : Array Value} {Z : State} (hw : ∀ d ∈ tables_1, d.before a0 Z = true) : (Jvm.Cond.declares ({ cls := "java/lang/Enum", name := "ordinal", desc := "()I" } : Jvm.MethodName)).before a0 Z = true := hw _ (List.mem_of_getElem? (i := 17) rfl)
theorem wd18 {a0 : Array Value} {Z : State} (hw : ∀ d ∈ tables_1, d.before a0 Z = true) : (Jvm.Cond.instanceMethod ({ cls := "java/lang/Enum", name := "ordinal", desc := "()I" } : Jvm.MethodName)).before a0 Z = true := hw _ (List.mem_of_getElem? (i := 18) rfl)
theorem wd19 {a0 : Array Value} {Z : State} (hw : ∀ d ∈ tables_1, d.before a0 Z = true) : (Jvm.Cond.selects "com/example/facility_atlas/facilityatlas/Rating" ({ cls := "com/example/facility_atlas/facilityatlas/Rating", name := "ordinal", desc := "()I" } : Jvm.MethodName) ({ cls := "java/lang/Enum", name := "ordinal", desc := "()I" } : Jvm.MethodName)).before a0 Z = true := hw _ (List.mem_of_getElem? (i := 19) rfl)
theorem wd20 {a0 : Array Value} {Z : State} (hw : ∀ d ∈ tables_1, d.before a0 Z = true) : (Jvm.Cond.initialized "java/lang/Enum").before a0 Z = true := hw _ (List.mem_of_getElem? (i := 20) rfl)
theorem wd21 {a0 : Array Value} {Z : State} (hw : ∀ d ∈ tables_1, d.before a0 Z = true) : (Jvm.Cond.code ({ cls := "java/lang/Enum", name := "ordinal", desc := "()I" } : Jvm.MethodName) jdk_37_method_2_code (1 : Nat) (Option.some Jvm.ClassFile.FieldType.int)).before a0 Z = true := hw _ (List.mem_of_getElem? (i := 21) rfl)
theorem wd22 {a0 : Array Value} {Z : State} (hw : ∀ d ∈ tables_1, d.before a0 Z = true) : (Jvm.Cond.fieldLink "java/lang/Enum" (7 : Nat) "java/lang/Enum" "ordinal" "I").before a0 Z = true := hw _ (List.mem_of_getElem? (i := 22) rfl)
theorem wd24 {a0 : Array Value} {Z : State} (hw : ∀ d ∈ tables_1, d.before a0 Z = true) : (Jvm.Cond.methodLink "com/example/facility_atlas/facilityatlas/Rating" (111 : Nat) ({ cls := "java/lang/Math", name := "abs", desc := "(I)I" } : Jvm.MethodName)).before a0 Z = true := hw _ (List.mem_of_getElem? (i := 24) rfl)
theorem wd25 {a0 : Array Value} {Z : State} (hw : ∀ d ∈ tables_1, d.before a0 Z = true) : (Jvm.Cond.static ({ cls := "java/lang/Math", name := "abs", desc := "(I)I" } : Jvm.MethodName)).before a0 Z = true := hw _ (List.mem_of_getElem? (i := 25) rfl)
theorem wd26 {a0 : Array Value} {Z : State} (hw : ∀ d ∈ tables_1, d.before a0 Z = true) : (Jvm.Cond.initialized "java/lang/Math").before a0 Z = true := hw _ (List.mem_of_getElem? (i := 26) rfl)
theorem wd27 {a0 : Array Value} {Z : State} (hw : ∀ d ∈ tables_1, d.before a0 Z = true) : (Jvm.Cond.code ({ cls := "java/lang/Math", name := "abs", desc := "(I)I" } : Jvm.MethodName) jdk_29_method_59_code (1 : Nat) (Option.some Jvm.ClassFile.FieldType.int)).before a0 Z = true := hw _ (List.mem_of_getElem? (i := 27) rfl)
theorem wd28 {a0 : Array Value} {Z : State} (hw : ∀ d ∈ tables_1, d.before a0 Z = true) : (Jvm.Cond.fieldLink "com/example/facility_atlas/facilityatlas/RatingGradesApartPinLaw" (52 : Nat) "com/example/facility_atlas/facilityatlas/Rating" "B" "Lcom/example/facility_atlas/facilityatlas/Rating;").before a0 Z = true := hw _ (List.mem_of_getElem? (i := 28) rfl)
theorem wd29 {a0 : Array Value} {Z : State} (hw : ∀ d ∈ tables_1, d.before a0 Z = true) : (Jvm.Cond.laysStatic "com/example/facility_atlas/facilityatlas/Rating" "B" "Lcom/example/facility_atlas/facilityatlas/Rating;").before a0 Z = true := hw _ (List.mem_of_getElem? (i := 29) rfl)
theorem wd30 {a0 : Array Value} {Z : State} (hw : ∀ d ∈ tables_1, d.before a0 Z = true) : (Jvm.Cond.fieldLink "com/example/facility_atlas/facilityatlas/RatingGradesApartPinLaw" (13 : Nat) "com/example/facility_atlas/facilityatlas/Rating" "AA_PLUS" "Lcom/example/facility_atlas/facilityatlas/Rating;").before a0 Z = true := hw _ (List.mem_of_getElem? (i := 30) rfl)
theorem wd31 {a0 : Array Value} {Z : State} (hw : ∀ d ∈ tables_1, d.before a0 Z = true) : (Jvm.Cond.laysStatic "com/example/facility_atlas/facilityatlas/Rating" "AA_PLUS" "Lcom/example/facility_atlas/facilityatlas/Rating;").before a0 Z = true := hw _ (List.mem_of_getElem? (i := 31) rfl)
theorem wd32 {a0 : Array Value} {Z : State} (hw : ∀ d ∈ tables_1, d.before a0 Z = true) : (Jvm.Cond.fieldLink "com/example/facility_atlas/facilityatlas/RatingGradesApartPinLaw" (25 : Nat) "com/example/facility_atlas/facilityatlas/Rating" "A" "Lcom/example/facility_atlas/facilityatlas/Rating;").before a0 Z = true := hw _ (List.mem_of_getElem? (i := 32) rfl)
theorem wd33 {a0 : Array Value} {Z : State} (hw : ∀ d ∈ tables_1, d.before a0 Z = true) : (Jvm.Cond.laysStatic "com/example/facility_atlas/facilityatlas/Rating" "A" "Lcom/example/facility_atlas/facilityatlas/Rating;").before a0 Z = true := hw _ (List.mem_of_getElem? (i := 33) rfl)
theorem wd34 {a0 : Array Value} {Z : State} (hw : ∀ d ∈ tables_1, d.before a0 Z = true) : (Jvm.Cond.fieldLink "com/example/facility_atlas/facilityatlas/RatingGradesApartPinLaw" (34 : Nat) "com/example/facility_atlas/facilityatlas/Rating" "BBB" "Lcom/example/facility_atlas/facilityatlas/Rating;").before a0 Z = true := hw _ (List.mem_of_getElem? (i := 34) rfl)
theorem wd35 {a0 : Array Value} {Z : State} (hw : ∀ d ∈ tables_1, d.before a0 Z = true) : (Jvm.Cond.laysStatic "com/example/facility_atlas/facilityatlas/Rating" "BBB" "Lcom/example/facility_atlas/facilityatlas/Rating;").before a0 Z = true := hw _ (List.mem_of_getElem? (i := 35) rfl)
theorem wd36 {a0 : Array Value} {Z : State} (hw : ∀ d ∈ tables_1, d.before a0 Z = true) : (Jvm.Cond.fieldLink "com/example/facility_atlas/facilityatlas/RatingGradesApartPinLaw" (16 : Nat) "com/example/facility_atlas/facilityatlas/Rating" "AA" "Lcom/example/facility_atlas/facilityatlas/Rating;").before a0 Z = true := hw _ (List.mem_of_getElem? (i := 36) rfl)
theorem wd37 {a0 : Array Value} {Z : State} (hw : ∀ d ∈ tables_1, d.before a0 Z = true) : (Jvm.Cond.laysStatic "com/example/facility_atlas/facilityatlas/Rating" "AA" "Lcom/example/facility_atlas/facilityatlas/Rating;").before a0 Z = true := hw _ (List.mem_of_getElem? (i := 37) rfl)
theorem wd38 {a0 : Array Value} {Z : State} (hw : ∀ d ∈ tables_1, d.before a0 Z = true) : (Jvm.Cond.fieldLink "com/example/facility_atlas/facilityatlas/RatingGradesApartPinLaw" (22 : Nat) "com/example/facility_atlas/facilityatlas/Rating" "A_PLUS" "Lcom/example/facility_atlas/facilityatlas/Rating;").before a0 Z = true := hw _ (List.mem_of_getElem? (i := 38) rfl)
theorem wd39 {a0 : Array Value} {Z : State} (hw : ∀ d ∈ tables_1, d.before a0 Z = true) : (Jvm.Cond.laysStatic "com/example/facility_atlas/facilityatlas/Rating" "A_PLUS" "Lcom/example/facility_atlas/facilityatlas/Rating;").before a0 Z = true := hw _ (List.mem_of_getElem? (i := 39) rfl)
theorem wd40 {a0 : Array Value} {Z : State} (hw : ∀ d ∈ tables_1, d.before a0 Z = true) : (Jvm.Cond.fieldLink "com/example/facility_atlas/facilityatlas/RatingGradesApartPinLaw" (49 : Nat) "com/example/facility_atlas/facilityatlas/Rating" "B_PLUS" "Lcom/example/facility_atlas/facilityatlas/Rating;").before a0 Z = true := hw _ (List.mem_of_getElem? (i := 40) rfl)
theorem wd41 {a0 : Array Value} {Z : State} (hw : ∀ d ∈ tables_1, d.before a0 Z = true) : (Jvm.Cond.laysStatic "com/example/facility_atlas/facilityatlas/Rating" "B_PLUS" "Lcom/example/facility_atlas/facilityatlas/Rating;").before a0 Z = true := hw _ (List.mem_of_getElem? (i := 41) rfl)
theorem wd42 {a0 : Array Value} {Z : State} (hw : ∀ d ∈ tables_1, d.before a0 Z = true) : (Jvm.Cond.fieldLink "com/example/facility_atlas/facilityatlas/RatingGradesApartPinLaw" (28 : Nat) "com/example/facility_atlas/facilityatlas/Rating" "A_MINUS" "Lcom/example/facility_atlas/facilityatlas/Rating;").before a0 Z = true := hw _ (List.mem_of_getElem? (i := 42) rfl)
theorem wd43 {a0 : Array Value} {Z : State} (hw : ∀ d ∈ tables_1, d.before a0 Z = true) : (Jvm.Cond.laysStatic "com/example/facility_atlas/facilityatlas/Rating" "A_MINUS" "Lcom/example/facility_atlas/facilityatlas/Rating;").before a0 Z = true := hw _ (List.mem_of_getElem? (i := 43) rfl)
theorem wd44 {a0 : Array Value} {Z : State} (hw : ∀ d ∈ tables_1, d.before a0 Z = true) : (Jvm.Cond.fieldLink "com/example/facility_atlas/facilityatlas/RatingGradesApartPinLaw" (40 : Nat) "com/example/facility_atlas/facilityatlas/Rating" "BB_PLUS" "Lcom/example/facility_atlas/facilityatlas/Rating;").before a0 Z = true := hw _ (List.mem_of_getElem? (i := 44) rfl)
theorem wd45 {a0 : Array Value} {Z : State} (hw : ∀ d ∈ tables_1, d.before a0 Z = true) : (Jvm.Cond.laysStatic "com/example/facility_atlas/facilityatlas/Rating" "BB_PLUS" "Lcom/example/facility_atlas/facilityatlas/Rating;").before a0 Z = true := hw _ (List.mem_of_getElem? (i := 45) rfl)
theorem wd46 {a0 : Array Value} {Z : State} (hw : ∀ d ∈ tables_1, d.before a0 Z = true) : (Jvm.Cond.fieldLink "com/example/facility_atlas/facilityatlas/RatingGradesApartPinLaw" (46 : Nat) "com/example/facility_atlas/facilityatlas/Rating" "BB_MINUS" "Lcom/example/facility_atlas/facilityatlas/Rating;").before a0 Z = true := hw _ (List.mem_of_getElem? (i := 46) rfl)
theorem wd47 {a0 : Array Value} {Z : State} (hw : ∀ d ∈ tables_1, d.before a0 Z = true) : (Jvm.Cond.laysStatic "com/example/facility_atlas/facilityatlas/Rating" "BB_MINUS" "Lcom/example/facility_atlas/facilityatlas/Rating;").before a0 Z = true := hw _ (List.mem_of_getElem? (i := 47) rfl)
theorem wd48 {a0 : Array Value} {Z : State} (hw : ∀ d ∈ tables_1, d.before a0 Z = true) : (Jvm.Cond.fieldLink "com/example/facility_atlas/facilityatlas/RatingGradesApartPinLaw" (55 : Nat) "com/example/facility_atlas/facilityatlas/Rating" "B_MINUS" "Lcom/example/facility_atlas/facilityatlas/Rating;").before a0 Z = true := hw _ (List.mem_of_getElem? (i := 48) rfl)
theorem wd49 {a0 : Array Value} {Z : State} (hw : ∀ d ∈ tables_1, d.before a0 Z = true) : (Jvm.Cond.laysStatic "com/example/facility_atlas/facilityatlas/Rating" "B_MINUS" "Lcom/example/facility_atlas/facilityatlas/Rating;").before a0 Z = true := hw _ (List.mem_of_getElem? (i := 49) rfl)
theorem wd50 {a0 : Array Value} {Z : State} (hw : ∀ d ∈ tables_1, d.before a0 Z = true) : (Jvm.Cond.fieldLink "com/example/facility_atlas/facilityatlas/RatingGradesApartPinLaw" (67 : Nat) "com/example/facility_atlas/facilityatlas/Rating" "CC" "Lcom/example/facility_atlas/facilityatlas/Rating;").before a0 Z = true := hw _ (List.mem_of_getElem? (i := 50) rfl)
theorem wd51 {a0 : Array Value} {Z : State} (hw : ∀ d ∈ tables_1, d.before a0 Z = true) : (Jvm.Cond.laysStatic "com/example/facility_atlas/facilityatlas/Rating" "CC" "Lcom/example/facility_atlas/facilityatlas/Rating;").before a0 Z = true := hw _ (List.mem_of_getElem? (i := 51) rfl)
theorem wd52 {a0 : Array Value} {Z : State} (hw : ∀ d ∈ tables_1, d.before a0 Z = true) : (Jvm.Cond.fieldLink "com/example/facility_atlas/facilityatlas/RatingGradesApartPinLaw" (64 : Nat) "com/example/facility_atlas/facilityatlas/Rating" "CCC_MINUS" "Lcom/example/facility_atlas/facilityatlas/Rating;").before a0 Z = true := hw _ (List.mem_of_getElem? (i := 52) rfl)
theorem wd53 {a0 : Array Value} {Z : State} (hw : ∀ d ∈ tables_1, d.before a0 Z = true) : (Jvm.Cond.laysStatic "com/example/facility_atlas/facilityatlas/Rating" "CCC_MINUS" "Lcom/example/facility_atlas/facilityatlas/Rating;").before a0 Z = true := hw _ (List.mem_of_getElem? (i := 53) rfl)
theorem wd54 {a0 : Array Value} {Z : State} (hw : ∀ d ∈ tables_1, d.before a0 Z = true) : (Jvm.Cond.fieldLink "com/example/facility_atlas/facilityatlas/RatingGradesApartPinLaw" (43 : Nat) "com/example/facility_atlas/facilityatlas/Rating" "BB" "Lcom/example/facility_atlas/facilityatlas/Rating;").before a0 Z = true := hw _ (List.mem_of_getElem? (i := 54) rfl)
theorem wd55 {a0 : Array Value} {Z : State} (hw : ∀ d ∈ tables_1, d.before a0 Z = true) : (Jvm.Cond.laysStatic "com/example/facility_atlas/facilityatlas/Rating" "BB" "Lcom/example/facility_atlas/facilityatlas/Rating;").before a0 Z = true := hw _ (List.mem_of_getElem? (i := 55) rfl)
theorem wd56 {a0 : Array Value} {Z : State} (hw : ∀ d ∈ tables_1, d.before a0 Z = true) : (Jvm.Cond.fieldLink "com/example/facility_atlas/facilityatlas/RatingGradesApartPinLaw" (70 : Nat) "com/example/facility_atlas/facilityatlas/Rating" "C" "Lcom/example/facility_atlas/facilityatlas/Rating;").before a0 Z = true := hw _ (List.mem_of_getElem? (i := 56) rfl)
theorem wd57 {a0 : Array Value} {Z : State} (hw : ∀ d ∈ tables_1, d.before a0 Z = true) : (Jvm.Cond.laysStatic "com/example/facility_atlas/facilityatlas/Rating" "C" "Lcom/example/facility_atlas/facilityatlas/Rating;").before a0 Z = true := hw _ (List.mem_of_getElem? (i := 57) rfl)
theorem wd58 {a0 : Array Value} {Z : State} (hw : ∀ d ∈ tables_1, d.before a0 Z = true) : (Jvm.Cond.fieldLink "com/example/facility_atlas/facilityatlas/RatingGradesApartPinLaw" (31 : Nat) "com/example/facility_atlas/facilityatlas/Rating" "BBB_PLUS" "Lcom/example/facility_atlas/facilityatlas/Rating;").before a0 Z = true := hw _ (List.mem_of_getElem? (i := 58) rfl)
theorem wd59 {a0 : Array Value} {Z : State} (hw : ∀ d ∈ tables_1, d.before a0 Z = true) : (Jvm.Cond.laysStatic "com/example/facility_atlas/facilityatlas/Rating" "BBB_PLUS" "Lcom/example/facility_atlas/facilityatlas/Rating;").before a0 Z = true := hw _ (List.mem_of_getElem? (i := 59) rfl)
theorem wd60 {a0 : Array Value} {Z : State} (hw : ∀ d ∈ tables_1, d.before a0 Z = true) : (Jvm.Cond.fieldLink "com/example/facility_atlas/facilityatlas/RatingGradesApartPinLaw" (37 : Nat) "com/example/facility_atlas/facilityatlas/Rating" "BBB_MINUS" "Lcom/example/facility_atlas/facilityatlas/Rating;").before a0 Z = true := hw _ (List.mem_of_getElem? (i := 60) rfl)
theorem wd61 {a0 : Array Value} {Z : State} (hw : ∀ d ∈ tables_1, d.before a0 Z = true) : (Jvm.Cond.laysStatic "com/example/facility_atlas/facilityatlas/Rating" "BBB_MINUS" "Lcom/example/facility_atlas/facilityatlas/Rating;").before a0 Z = true := hw _ (List.mem_of_getElem? (i := 61) rfl)
theorem wd62 {a0 : Array Value} {Z : State} (hw : ∀ d ∈ tables_1, d.before a0 Z = true) : (Jvm.Cond.fieldLink "com/example/facility_atlas/facilityatlas/RatingGradesApartPinLaw" (58 : Nat) "com/example/facility_atlas/facilityatlas/Rating" "CCC_PLUS" "Lcom/example/facility_atlas/facilityatlas/Rating;").before a0 Z = true := hw _ (List.mem_of_getElem? (i := 62) rfl)
theorem wd63 {a0 : Array Value} {Z : State} (hw : ∀ d ∈ tables_1, d.before a0 Z = true) : (Jvm.Cond.laysStatic "com/example/facility_atlas/facilityatlas/Rating" "CCC_PLUS" "Lcom/example/facility_atlas/facilityatlas/Rating;").before a0 Z = true := hw _ (List.mem_of_getElem? (i := 63) rfl)
theorem wd64 {a0 : Array Value} {Z : State} (hw : ∀ d ∈ tables_1, d.before a0 Z = true) : (Jvm.Cond.fieldLink "com/example/facility_atlas/facilityatlas/RatingGradesApartPinLaw" (61 : Nat) "com/example/facility_atlas/facilityatlas/Rating" "CCC" "Lcom/example/facility_atlas/facilityatlas/Rating;").before a0 Z = true := hw _ (List.mem_of_getElem? (i := 64) rfl)
theorem wd65 {a0 : Array Value} {Z : State} (hw : ∀ d ∈ tables_1, d.before a0 Z = true) : (Jvm.Cond.laysStatic "com/example/facility_atlas/facilityatlas/Rating" "CCC" "Lcom/example/facility_atlas/facilityatlas/Rating;").before a0 Z = true := hw _ (List.mem_of_getElem? (i := 65) rfl)
theorem d1_0 : decode method_2_code 0 = .ok (.iload_n 0, 1) := by decide +kernel
theorem d1_1 : decode method_2_code 1 = .ok (.tableswitch 175 0 19 #[95, 99, 103, 107, 111, 115, 119, 123, 127, 131, 135, 139, 143, 147, 151, 155, 159, 163, 167, 171], 95) := by decide +kernel
theorem d1_96 : decode method_2_code 96 = .ok (.getstatic 7, 3) := by decide +kernel
theorem d1_99 : decode method_2_code 99 = .ok (.areturn, 1) := by decide +kernel
theorem ef_1_0 (m : MethodId)  : entryFrame m #[(.int (0 : Int32))] 1 = mkF m 0 #[.val (.int (0 : Int32))] [] := by first | (simp [entryFrame, mkF, argsToLocals, Value.category]; done) | rfl
theorem pn_0 : plainName "com/example/facility_atlas/facilityatlas/RatingGradesApartPinLaw" = true := by first | (simp [plainName, overriddenIn]; done) | decide +kernel
def Q_rm1_0 (Z : State) (w1 : Addr) (h0 : Heap) (n0 : Nat) (v : Option Value) (h : Heap) (L : List Loc) : Prop := v = some (.ref w1) ∧ Fr n0 L ∧ h = h0
set_option maxRecDepth 65536 in
set_option maxHeartbeats 40000000 in
theorem rm1_0 (l : Launch) (Z : State) (a0 : Array Value) (hw : ∀ d ∈ tables_1, d.before a0 Z = true) (ws : List Jvm.Cond) (w1 : Addr) (h0 : Heap) (n0 : Nat) (OL0 : Old Z n0 h0) (pr1 : Sta Z Z.heap "com/example/facility_atlas/facilityatlas/Rating" "AAA" "Lcom/example/facility_atlas/facilityatlas/Rating;" (.ref w1)) :
    MetFree l (⟨"com/example/facility_atlas/facilityatlas/RatingGradesApartPinLaw", "grade", "(I)Lcom/example/facility_atlas/facilityatlas/Rating;"⟩ : MethodName) (head1 (Jvm.Cond.code (⟨"com/example/facility_atlas/facilityatlas/RatingGradesApartPinLaw", "grade", "(I)Lcom/example/facility_atlas/facilityatlas/Rating;"⟩ : MethodName) method_2_code 1 (some (.object "com/example/facility_atlas/facilityatlas/Rating")) :: ws) ({ frames := 0, cells := 0, slots := 0, locals := 0 } : Room)) (fun a U => a = #[(.int (0 : Int32))] ∧ Z.Warmed39 U.vm ∧ U.heap = h0) (fun _ _ _ _ _ => True) (fun _ U o U' => ∃ v L, o = .returned v ∧ Q_rm1_0 Z w1 h0 n0 v U'.heap L ∧ FrameEnd U o U' L ({ frames := 0, cells := 0, slots := 0, locals := 0 } : Room).cells ({ frames := 0, cells := 0, slots := 0, locals := 0 } : Room).slots) := by
  refine MetFree.of_bodySF (plainFor_of_name pn_0) hisR ?_
  intro p e s m args below meth c s₁ Bd hml0 hP hK
  obtain ⟨rfl, hZ, hh⟩ := hP
  have hx := Bd.exec
  have hby := Bd.bytes
  have hml : c.maxLocals = 1 := hml0
  have hown : s.vm.findClass "com/example/facility_atlas/facilityatlas/RatingGradesApartPinLaw" = some m.cls := findClass_of_methodNamed Bd.named
  have hnm := (name_of_methodNamed Bd.named Bd.method).1
  have X0 : Stand p l e ({ frames := 0, cells := 0, slots := 0, locals := 0 } : Room) s m #[(.int (0 : Int32))] below meth c s₁ [] 0 0 := Stand.of_body Bd
  have e0 : s₁.heap = h0 := by rw [← hh, Bd.state]; rfl
  have N0 := Fr.nil n0
  have pre0 : ∀ t, Steps p.tables e below (s₁.setTop (mkF m 0 #[.val (.int (0 : Int32))] [])) t → Steps p.tables e below (s₁.setTop (entryFrame m #[(.int (0 : Int32))] 1)) t := fun t k => castTop (ef_1_0 m ) k
  obtain ⟨T2, X2, e2, st2⟩ := getS2 X0 hx hZ hown (host := "") (Or.inl (wd5 hw)) Via.refl e0 (pr1.ext OL0.2) (g := (mkF m 96 #[.val (.int (0 : Int32))] [])) rfl (hb hby d1_96)
  obtain ⟨fs, hr, hrun, hended, hW, hsame⟩ := X2.leave (v := some (.ref w1)) (fun h => by rw [Bd.returns] at h; cases h)
  refine ⟨_, _, pre0 _ ?_, hrun, hended, _, _, rfl, ?_, ⟨_, rfl⟩, hW, hsame.mono (by decide) (by decide)⟩
  · show Steps p.tables e below (s₁.setTop (mkF m 0 #[.val (.int (0 : Int32))] [])) _
    refine XS.iloadN X0.here hx rfl (hb hby d1_0) rfl ?_
    show Steps p.tables e below (s₁.setTop (mkF m 1 #[.val (.int (0 : Int32))] [(.int (0 : Int32))])) _
    refine XS.tswIn X0.here hx rfl (pc0 := 1) (pc' := 96) (o := 95) rfl (hb hby d1_1) rfl (by decide) (by decide) (by decide) (by decide) ?_
    show Steps p.tables e below (s₁.setTop (mkF m 96 #[.val (.int (0 : Int32))] [])) _
    refine st2 _ ?_
    show Steps p.tables e below (T2.setTop (mkF m 99 #[.val (.int (0 : Int32))] [(.ref w1)])) _
    jvm_step X2.here [X2.here.top, hx, (hb hby d1_99), X2.method', Bd.returns, Value.isRef, FieldType.isReference]
    first | (intro acts; rw [hr _ acts rfl rfl rfl]) | rw [hr _ _ rfl rfl rfl]
    exact Steps.refl _
  · show Q_rm1_0 Z w1 h0 n0 _ T2.heap _
    rw [e2]
    exact ⟨rfl, N0, rfl⟩
theorem d1_100 : decode method_2_code 100 = .ok (.getstatic 13, 3) := by decide +kernel
theorem d1_103 : decode method_2_code 103 = .ok (.areturn, 1) := by decide +kernel
theorem ef_1_1 (m : MethodId)  : entryFrame m #[(.int (1 : Int32))] 1 = mkF m 0 #[.val (.int (1 : Int32))] [] := by first | (simp [entryFrame, mkF, argsToLocals, Value.category]; done) | rfl
def Q_rm1_1 (Z : State) (w1 : Addr) (h0 : Heap) (n0 : Nat) (v : Option Value) (h : Heap) (L : List Loc) : Prop := v = some (.ref w1) ∧ Fr n0 L ∧ h = h0
set_option maxRecDepth 65536 in
set_option maxHeartbeats 40000000 in
theorem rm1_1 (l : Launch) (Z : State) (a0 : Array Value) (hw : ∀ d ∈ tables_1, d.before a0 Z = true) (ws : List Jvm.Cond) (w1 : Addr) (h0 : Heap) (n0 : Nat) (OL0 : Old Z n0 h0) (pr1 : Sta Z Z.heap "com/example/facility_atlas/facilityatlas/Rating" "AA_PLUS" "Lcom/example/facility_atlas/facilityatlas/Rating;" (.ref w1)) :
    MetFree l (⟨"com/example/facility_atlas/facilityatlas/RatingGradesApartPinLaw", "grade", "(I)Lcom/example/facility_atlas/facilityatlas/Rating;"⟩ : MethodName) (head1 (Jvm.Cond.code (⟨"com/example/facility_atlas/facilityatlas/RatingGradesApartPinLaw", "grade", "(I)Lcom/example/facility_atlas/facilityatlas/Rating;"⟩ : MethodName) method_2_code 1 (some (.object "com/example/facility_atlas/facilityatlas/Rating")) :: ws) ({ frames := 0, cells := 0, slots := 0, locals := 0 } : Room)) (fun a U => a = #[(.int (1 : Int32))] ∧ Z.Warmed39 U.vm ∧ U.heap = h0) (fun _ _ _ _ _ => True) (fun _ U o U' => ∃ v L, o = .returned v ∧ Q_rm1_1 Z w1 h0 n0 v U'.heap L ∧ FrameEnd U o U' L ({ frames := 0, cells := 0, slots := 0, locals := 0 } : Room).cells ({ frames := 0, cells := 0, slots := 0, locals := 0 } : Room).slots) := by
  refine MetFree.of_bodySF (plainFor_of_name pn_0) hisR ?_
  intro p e s m args below meth c s₁ Bd hml0 hP hK
  obtain ⟨rfl, hZ, hh⟩ := hP
  have hx := Bd.exec
  have hby := Bd.bytes
  have hml : c.maxLocals = 1 := hml0
  have hown : s.vm.findClass "com/example/facility_atlas/facilityatlas/RatingGradesApartPinLaw" = some m.cls := findClass_of_methodNamed Bd.named
  have hnm := (name_of_methodNamed Bd.named Bd.method).1
  have X0 : Stand p l e ({ frames := 0, cells := 0, slots := 0, locals := 0 } : Room) s m #[(.int (1 : Int32))] below meth c s₁ [] 0 0 := Stand.of_body Bd
  have e0 : s₁.heap = h0 := by rw [← hh, Bd.state]; rfl
  have N0 := Fr.nil n0
  have pre0 : ∀ t, Steps p.tables e below (s₁.setTop (mkF m 0 #[.val (.int (1 : Int32))] [])) t → Steps p.tables e below (s₁.setTop (entryFrame m #[(.int (1 : Int32))] 1)) t := fun t k => castTop (ef_1_1 m ) k
  obtain ⟨T2, X2, e2, st2⟩ := getS2 X0 hx hZ hown (host := "") (Or.inl (wd30 hw)) Via.refl e0 (pr1.ext OL0.2) (g := (mkF m 100 #[.val (.int (1 : Int32))] [])) rfl (hb hby d1_100)
  obtain ⟨fs, hr, hrun, hended, hW, hsame⟩ := X2.leave (v := some (.ref w1)) (fun h => by rw [Bd.returns] at h; cases h)
  refine ⟨_, _, pre0 _ ?_, hrun, hended, _, _, rfl, ?_, ⟨_, rfl⟩, hW, hsame.mono (by decide) (by decide)⟩
  · show Steps p.tables e below (s₁.setTop (mkF m 0 #[.val (.int (1 : Int32))] [])) _
    refine XS.iloadN X0.here hx rfl (hb hby d1_0) rfl ?_
    show Steps p.tables e below (s₁.setTop (mkF m 1 #[.val (.int (1 : Int32))] [(.int (1 : Int32))])) _
    refine XS.tswIn X0.here hx rfl (pc0 := 1) (pc' := 100) (o := 99) rfl (hb hby d1_1) rfl (by decide) (by decide) (by decide) (by decide) ?_
    show Steps p.tables e below (s₁.setTop (mkF m 100 #[.val (.int (1 : Int32))] [])) _
    refine st2 _ ?_
    show Steps p.tables e below (T2.setTop (mkF m 103 #[.val (.int (1 : Int32))] [(.ref w1)])) _
    jvm_step X2.here [X2.here.top, hx, (hb hby d1_103), X2.method', Bd.returns, Value.isRef, FieldType.isReference]
    first | (intro acts; rw [hr _ acts rfl rfl rfl]) | rw [hr _ _ rfl rfl rfl]
    exact Steps.refl _
  · show Q_rm1_1 Z w1 h0 n0 _ T2.heap _
    rw [e2]
    exact ⟨rfl, N0, rfl⟩
theorem d1_104 : decode method_2_code 104 = .ok (.getstatic 16, 3) := by decide +kernel
theorem d1_107 : decode method_2_code 107 = .ok (.areturn, 1) := by decide +kernel
theorem ef_1_2 (m : MethodId)  : entryFrame m #[(.int (2 : Int32))] 1 = mkF m 0 #[.val (.int (2 : Int32))] [] := by first | (simp [entryFrame, mkF, argsToLocals, Value.category]; done) | rfl
def Q_rm1_2 (Z : State) (w1 : Addr) (h0 : Heap) (n0 : Nat) (v : Option Value) (h : Heap) (L : List Loc) : Prop := v = some (.ref w1) ∧ Fr n0 L ∧ h = h0
set_option maxRecDepth 65536 in
set_option maxHeartbeats 40000000 in
theorem rm1_2 (l : Launch) (Z : State) (a0 : Array Value) (hw : ∀ d ∈ tables_1, d.before a0 Z = true) (ws : List Jvm.Cond) (w1 : Addr) (h0 : Heap) (n0 : Nat) (OL0 : Old Z n0 h0) (pr1 : Sta Z Z.heap "com/example/facility_atlas/facilityatlas/Rating" "AA" "Lcom/example/facility_atlas/facilityatlas/Rating;" (.ref w1)) :
    MetFree l (⟨"com/example/facility_atlas/facilityatlas/RatingGradesApartPinLaw", "grade", "(I)Lcom/example/facility_atlas/facilityatlas/Rating;"⟩ : MethodName) (head1 (Jvm.Cond.code (⟨"com/example/facility_atlas/facilityatlas/RatingGradesApartPinLaw", "grade", "(I)Lcom/example/facility_atlas/facilityatlas/Rating;"⟩ : MethodName) method_2_code 1 (some (.object "com/example/facility_atlas/facilityatlas/Rating")) :: ws) ({ frames := 0, cells := 0, slots := 0, locals := 0 } : Room)) (fun a U => a = #[(.int (2 : Int32))] ∧ Z.Warmed39 U.vm ∧ U.heap = h0) (fun _ _ _ _ _ => True) (fun _ U o U' => ∃ v L, o = .returned v ∧ Q_rm1_2 Z w1 h0 n0 v U'.heap L ∧ FrameEnd U o U' L ({ frames := 0, cells := 0, slots := 0, locals := 0 } : Room).cells ({ frames := 0, cells := 0, slots := 0, locals := 0 } : Room).slots) := by
  refine MetFree.of_bodySF (plainFor_of_name pn_0) hisR ?_
  intro p e s m args below meth c s₁ Bd hml0 hP hK
  obtain ⟨rfl, hZ, hh⟩ := hP
  have hx := Bd.exec
  have hby := Bd.bytes
  have hml : c.maxLocals = 1 := hml0
  have hown : s.vm.findClass "com/example/facility_atlas/facilityatlas/RatingGradesApartPinLaw" = some m.cls := findClass_of_methodNamed Bd.named
  have hnm := (name_of_methodNamed Bd.named Bd.method).1
  have X0 : Stand p l e ({ frames := 0, cells := 0, slots := 0, locals := 0 } : Room) s m #[(.int (2 : Int32))] below meth c s₁ [] 0 0 := Stand.of_body Bd
  have e0 : s₁.heap = h0 := by rw [← hh, Bd.state]; rfl
  have N0 := Fr.nil n0
  have pre0 : ∀ t, Steps p.tables e below (s₁.setTop (mkF m 0 #[.val (.int (2 : Int32))] [])) t → Steps p.tables e below (s₁.setTop (entryFrame m #[(.int (2 : Int32))] 1)) t := fun t k => castTop (ef_1_2 m ) k
  obtain ⟨T2, X2, e2, st2⟩ := getS2 X0 hx hZ hown (host := "") (Or.inl (wd36 hw)) Via.refl e0 (pr1.ext OL0.2) (g := (mkF m 104 #[.val (.int (2 : Int32))] [])) rfl (hb hby d1_104)
  obtain ⟨fs, hr, hrun, hended, hW, hsame⟩ := X2.leave (v := some (.ref w1)) (fun h => by rw [Bd.returns] at h; cases h)
  refine ⟨_, _, pre0 _ ?_, hrun, hended, _, _, rfl, ?_, ⟨_, rfl⟩, hW, hsame.mono (by decide) (by decide)⟩
  · show Steps p.tables e below (s₁.setTop (mkF m 0 #[.val (.int (2 : Int32))] [])) _
    refine XS.iloadN X0.here hx rfl (hb hby d1_0) rfl ?_
    show Steps p.tables e below (s₁.setTop (mkF m 1 #[.val (.int (2 : Int32))] [(.int (2 : Int32))])) _
    refine XS.tswIn X0.here hx rfl (pc0 := 1) (pc' := 104) (o := 103) rfl (hb hby d1_1) rfl (by decide) (by decide) (by decide) (by decide) ?_
    show Steps p.tables e below (s₁.setTop (mkF m 104 #[.val (.int (2 : Int32))] [])) _
    refine st2 _ ?_
    show Steps p.tables e below (T2.setTop (mkF m 107 #[.val (.int (2 : Int32))] [(.ref w1)])) _
    jvm_step X2.here [X2.here.top, hx, (hb hby d1_107), X2.method', Bd.returns, Value.isRef, FieldType.isReference]
    first | (intro acts; rw [hr _ acts rfl rfl rfl]) | rw [hr _ _ rfl rfl rfl]
    exact Steps.refl _
  · show Q_rm1_2 Z w1 h0 n0 _ T2.heap _
    rw [e2]
    exact ⟨rfl, N0, rfl⟩
theorem d1_108 : decode method_2_code 108 = .ok (.getstatic 19, 3) := by decide +kernel
theorem d1_111 : decode method_2_code 111 = .ok (.areturn, 1) := by decide +kernel
theorem ef_1_3 (m : MethodId)  : entryFrame m #[(.int (3 : Int32))] 1 = mkF m 0 #[.val (.int (3 : Int32))] [] := by first | (simp [entryFrame, mkF, argsToLocals, Value.category]; done) | rfl
def Q_rm1_3 (Z : State) (w1 : Addr) (h0 : Heap) (n0 : Nat) (v : Option Value) (h : Heap) (L : List Loc) : Prop := v = some (.ref w1) ∧ Fr n0 L ∧ h = h0
set_option maxRecDepth 65536 in
set_option maxHeartbeats 40000000 in
theorem rm1_3 (l : Launch) (Z : State) (a0 : Array Value) (hw : ∀ d ∈ tables_1, d.before a0 Z = true) (ws : List Jvm.Cond) (w1 : Addr) (h0 : Heap) (n0 : Nat) (OL0 : Old Z n0 h0) (pr1 : Sta Z Z.heap "com/example/facility_atlas/facilityatlas/Rating" "AA_MINUS" "Lcom/example/facility_atlas/facilityatlas/Rating;" (.ref w1)) :
    MetFree l (⟨"com/example/facility_atlas/facilityatlas/RatingGradesApartPinLaw", "grade", "(I)Lcom/example/facility_atlas/facilityatlas/Rating;"⟩ : MethodName) (head1 (Jvm.Cond.code (⟨"com/example/facility_atlas/facilityatlas/RatingGradesApartPinLaw", "grade", "(I)Lcom/example/facility_atlas/facilityatlas/Rating;"⟩ : MethodName) method_2_code 1 (some (.object "com/example/facility_atlas/facilityatlas/Rating")) :: ws) ({ frames := 0, cells := 0, slots := 0, locals := 0 } : Room)) (fun a U => a = #[(.int (3 : Int32))] ∧ Z.Warmed39 U.vm ∧ U.heap = h0) (fun _ _ _ _ _ => True) (fun _ U o U' => ∃ v L, o = .returned v ∧ Q_rm1_3 Z w1 h0 n0 v U'.heap L ∧ FrameEnd U o U' L ({ frames := 0, cells := 0, slots := 0, locals := 0 } : Room).cells ({ frames := 0, cells := 0, slots := 0, locals := 0 } : Room).slots) := by
  refine MetFree.of_bodySF (plainFor_of_name pn_0) hisR ?_
  intro p e s m args below meth c s₁ Bd hml0 hP hK
  obtain ⟨rfl, hZ, hh⟩ := hP
  have hx := Bd.exec
  have hby := Bd.bytes
  have hml : c.maxLocals = 1 := hml0
  have hown : s.vm.findClass "com/example/facility_atlas/facilityatlas/RatingGradesApartPinLaw" = some m.cls := findClass_of_methodNamed Bd.named
  have hnm := (name_of_methodNamed Bd.named Bd.method).1
  have X0 : Stand p l e ({ frames := 0, cells := 0, slots := 0, locals := 0 } : Room) s m #[(.int (3 : Int32))] below meth c s₁ [] 0 0 := Stand.of_body Bd
  have e0 : s₁.heap = h0 := by rw [← hh, Bd.state]; rfl
  have N0 := Fr.nil n0
  have pre0 : ∀ t, Steps p.tables e below (s₁.setTop (mkF m 0 #[.val (.int (3 : Int32))] [])) t → Steps p.tables e below (s₁.setTop (entryFrame m #[(.int (3 : Int32))] 1)) t := fun t k => castTop (ef_1_3 m ) k
  obtain ⟨T2, X2, e2, st2⟩ := getS2 X0 hx hZ hown (host := "") (Or.inl (wd8 hw)) Via.refl e0 (pr1.ext OL0.2) (g := (mkF m 108 #[.val (.int (3 : Int32))] [])) rfl (hb hby d1_108)
  obtain ⟨fs, hr, hrun, hended, hW, hsame⟩ := X2.leave (v := some (.ref w1)) (fun h => by rw [Bd.returns] at h; cases h)
  refine ⟨_, _, pre0 _ ?_, hrun, hended, _, _, rfl, ?_, ⟨_, rfl⟩, hW, hsame.mono (by decide) (by decide)⟩
  · show Steps p.tables e below (s₁.setTop (mkF m 0 #[.val (.int (3 : Int32))] [])) _
    refine XS.iloadN X0.here hx rfl (hb hby d1_0) rfl ?_
    show Steps p.tables e below (s₁.setTop (mkF m 1 #[.val (.int (3 : Int32))] [(.int (3 : Int32))])) _
    refine XS.tswIn X0.here hx rfl (pc0 := 1) (pc' := 108) (o := 107) rfl (hb hby d1_1) rfl (by decide) (by decide) (by decide) (by decide) ?_
    show Steps p.tables e below (s₁.setTop (mkF m 108 #[.val (.int (3 : Int32))] [])) _
    refine st2 _ ?_
    show Steps p.tables e below (T2.setTop (mkF m 111 #[.val (.int (3 : Int32))] [(.ref w1)])) _
    jvm_step X2.here [X2.here.top, hx, (hb hby d1_111), X2.method', Bd.returns, Value.isRef, FieldType.isReference]
    first | (intro acts; rw [hr _ acts rfl rfl rfl]) | rw [hr _ _ rfl rfl rfl]
    exact Steps.refl _
  · show Q_rm1_3 Z w1 h0 n0 _ T2.heap _
    rw [e2]
    exact ⟨rfl, N0, rfl⟩
theorem d1_112 : decode method_2_code 112 = .ok (.getstatic 22, 3) := by decide +kernel
theorem d1_115 : decode method_2_code 115 = .ok (.areturn, 1) := by decide +kernel
theorem ef_1_4 (m : MethodId)  : entryFrame m #[(.int (4 : Int32))] 1 = mkF m 0 #[.val (.int (4 : Int32))] [] := by first | (simp [entryFrame, mkF, argsToLocals, Value.category]; done) | rfl
def Q_rm1_4 (Z : State) (w1 : Addr) (h0 : Heap) (n0 : Nat) (v : Option Value) (h : Heap) (L : List Loc) : Prop := v = some (.ref w1) ∧ Fr n0 L ∧ h = h0
set_option maxRecDepth 65536 in
set_option maxHeartbeats 40000000 in
theorem rm1_4 (l : Launch) (Z : State) (a0 : Array Value) (hw : ∀ d ∈ tables_1, d.before a0 Z = true) (ws : List Jvm.Cond) (w1 : Addr) (h0 : Heap) (n0 : Nat) (OL0 : Old Z n0 h0) (pr1 : Sta Z Z.heap "com/example/facility_atlas/facilityatlas/Rating" "A_PLUS" "Lcom/example/facility_atlas/facilityatlas/Rating;" (.ref w1)) :
    MetFree l (⟨"com/example/facility_atlas/facilityatlas/RatingGradesApartPinLaw", "grade", "(I)Lcom/example/facility_atlas/facilityatlas/Rating;"⟩ : MethodName) (head1 (Jvm.Cond.code (⟨"com/example/facility_atlas/facilityatlas/RatingGradesApartPinLaw", "grade", "(I)Lcom/example/facility_atlas/facilityatlas/Rating;"⟩ : MethodName) method_2_code 1 (some (.object "com/example/facility_atlas/facilityatlas/Rating")) :: ws) ({ frames := 0, cells := 0, slots := 0, locals := 0 } : Room)) (fun a U => a = #[(.int (4 : Int32))] ∧ Z.Warmed39 U.vm ∧ U.heap = h0) (fun _ _ _ _ _ => True) (fun _ U o U' => ∃ v L, o = .returned v ∧ Q_rm1_4 Z w1 h0 n0 v U'.heap L ∧ FrameEnd U o U' L ({ frames := 0, cells := 0, slots := 0, locals := 0 } : Room).cells ({ frames := 0, cells := 0, slots := 0, locals := 0 } : Room).slots) := by
  refine MetFree.of_bodySF (plainFor_of_name pn_0) hisR ?_
  intro p e s m args below meth c s₁ Bd hml0 hP hK
  obtain ⟨rfl, hZ, hh⟩ := hP
  have hx := Bd.exec
  have hby := Bd.bytes
  have hml : c.maxLocals = 1 := hml0
  have hown : s.vm.findClass "com/example/facility_atlas/facilityatlas/RatingGradesApartPinLaw" = some m.cls := findClass_of_methodNamed Bd.named
  have hnm := (name_of_methodNamed Bd.named Bd.method).1
  have X0 : Stand p l e ({ frames := 0, cells := 0, slots := 0, locals := 0 } : Room) s m #[(.int (4 : Int32))] below meth c s₁ [] 0 0 := Stand.of_body Bd
  have e0 : s₁.heap = h0 := by rw [← hh, Bd.state]; rfl
  have N0 := Fr.nil n0
  have pre0 : ∀ t, Steps p.tables e below (s₁.setTop (mkF m 0 #[.val (.int (4 : Int32))] [])) t → Steps p.tables e below (s₁.setTop (entryFrame m #[(.int (4 : Int32))] 1)) t := fun t k => castTop (ef_1_4 m ) k
  obtain ⟨T2, X2, e2, st2⟩ := getS2 X0 hx hZ hown (host := "") (Or.inl (wd38 hw)) Via.refl e0 (pr1.ext OL0.2) (g := (mkF m 112 #[.val (.int (4 : Int32))] [])) rfl (hb hby d1_112)
  obtain ⟨fs, hr, hrun, hended, hW, hsame⟩ := X2.leave (v := some (.ref w1)) (fun h => by rw [Bd.returns] at h; cases h)
  refine ⟨_, _, pre0 _ ?_, hrun, hended, _, _, rfl, ?_, ⟨_, rfl⟩, hW, hsame.mono (by decide) (by decide)⟩
  · show Steps p.tables e below (s₁.setTop (mkF m 0 #[.val (.int (4 : Int32))] [])) _
    refine XS.iloadN X0.here hx rfl (hb hby d1_0) rfl ?_
    show Steps p.tables e below (s₁.setTop (mkF m 1 #[.val (.int (4 : Int32))] [(.int (4 : Int32))])) _
    refine XS.tswIn X0.here hx rfl (pc0 := 1) (pc' := 112) (o := 111) rfl (hb hby d1_1) rfl (by decide) (by decide) (by decide) (by decide) ?_
    show Steps p.tables e below (s₁.setTop (mkF m 112 #[.val (.int (4 : Int32))] [])) _
    refine st2 _ ?_
    show Steps p.tables e below (T2.setTop (mkF m 115 #[.val (.int (4 : Int32))] [(.ref w1)])) _
    jvm_step X2.here [X2.here.top, hx, (hb hby d1_115), X2.method', Bd.returns, Value.isRef, FieldType.isReference]
    first | (intro acts; rw [hr _ acts rfl rfl rfl]) | rw [hr _ _ rfl rfl rfl]
    exact Steps.refl _
  · show Q_rm1_4 Z w1 h0 n0 _ T2.heap _
    rw [e2]
    exact ⟨rfl, N0, rfl⟩
theorem d1_116 : decode method_2_code 116 = .ok (.getstatic 25, 3) := by decide +kernel
theorem d1_119 : decode method_2_code 119 = .ok (.areturn, 1) := by decide +kernel
theorem ef_1_5 (m : MethodId)  : entryFrame m #[(.int (5 : Int32))] 1 = mkF m 0 #[.val (.int (5 : Int32))] [] := by first | (simp [entryFrame, mkF, argsToLocals, Value.category]; done) | rfl
def Q_rm1_5 (Z : State) (w1 : Addr) (h0 : Heap) (n0 : Nat) (v : Option Value) (h : Heap) (L : List Loc) : Prop := v = some (.ref w1) ∧ Fr n0 L ∧ h = h0
set_option maxRecDepth 65536 in
set_option maxHeartbeats 40000000 in
theorem rm1_5 (l : Launch) (Z : State) (a0 : Array Value) (hw : ∀ d ∈ tables_1, d.before a0 Z = true) (ws : List Jvm.Cond) (w1 : Addr) (h0 : Heap) (n0 : Nat) (OL0 : Old Z n0 h0) (pr1 : Sta Z Z.heap "com/example/facility_atlas/facilityatlas/Rating" "A" "Lcom/example/facility_atlas/facilityatlas/Rating;" (.ref w1)) :
    MetFree l (⟨"com/example/facility_atlas/facilityatlas/RatingGradesApartPinLaw", "grade", "(I)Lcom/example/facility_atlas/facilityatlas/Rating;"⟩ : MethodName) (head1 (Jvm.Cond.code (⟨"com/example/facility_atlas/facilityatlas/RatingGradesApartPinLaw", "grade", "(I)Lcom/example/facility_atlas/facilityatlas/Rating;"⟩ : MethodName) method_2_code 1 (some (.object "com/example/facility_atlas/facilityatlas/Rating")) :: ws) ({ frames := 0, cells := 0, slots := 0, locals := 0 } : Room)) (fun a U => a = #[(.int (5 : Int32))] ∧ Z.Warmed39 U.vm ∧ U.heap = h0) (fun _ _ _ _ _ => True) (fun _ U o U' => ∃ v L, o = .returned v ∧ Q_rm1_5 Z w1 h0 n0 v U'.heap L ∧ FrameEnd U o U' L ({ frames := 0, cells := 0, slots := 0, locals := 0 } : Room).cells ({ frames := 0, cells := 0, slots := 0, locals := 0 } : Room).slots) := by
  refine MetFree.of_bodySF (plainFor_of_name pn_0) hisR ?_
  intro p e s m args below meth c s₁ Bd hml0 hP hK
  obtain ⟨rfl, hZ, hh⟩ := hP
  have hx := Bd.exec
  have hby := Bd.bytes
  have hml : c.maxLocals = 1 := hml0
  have hown : s.vm.findClass "com/example/facility_atlas/facilityatlas/RatingGradesApartPinLaw" = some m.cls := findClass_of_methodNamed Bd.named
  have hnm := (name_of_methodNamed Bd.named Bd.method).1
  have X0 : Stand p l e ({ frames := 0, cells := 0, slots := 0, locals := 0 } : Room) s m #[(.int (5 : Int32))] below meth c s₁ [] 0 0 := Stand.of_body Bd
  have e0 : s₁.heap = h0 := by rw [← hh, Bd.state]; rfl
  have N0 := Fr.nil n0
  have pre0 : ∀ t, Steps p.tables e below (s₁.setTop (mkF m 0 #[.val (.int (5 : Int32))] [])) t → Steps p.tables e below (s₁.setTop (entryFrame m #[(.int (5 : Int32))] 1)) t := fun t k => castTop (ef_1_5 m ) k
  obtain ⟨T2, X2, e2, st2⟩ := getS2 X0 hx hZ hown (host := "") (Or.inl (wd32 hw)) Via.refl e0 (pr1.ext OL0.2) (g := (mkF m 116 #[.val (.int (5 : Int32))] [])) rfl (hb hby d1_116)
  obtain ⟨fs, hr, hrun, hended, hW, hsame⟩ := X2.leave (v := some (.ref w1)) (fun h => by rw [Bd.returns] at h; cases h)
  refine ⟨_, _, pre0 _ ?_, hrun, hended, _, _, rfl, ?_, ⟨_, rfl⟩, hW, hsame.mono (by decide) (by decide)⟩
  · show Steps p.tables e below (s₁.setTop (mkF m 0 #[.val (.int (5 : Int32))] [])) _
    refine XS.iloadN X0.here hx rfl (hb hby d1_0) rfl ?_
    show Steps p.tables e below (s₁.setTop (mkF m 1 #[.val (.int (5 : Int32))] [(.int (5 : Int32))])) _
    refine XS.tswIn X0.here hx rfl (pc0 := 1) (pc' := 116) (o := 115) rfl (hb hby d1_1) rfl (by decide) (by decide) (by decide) (by decide) ?_
    show Steps p.tables e below (s₁.setTop (mkF m 116 #[.val (.int (5 : Int32))] [])) _
    refine st2 _ ?_
    show Steps p.tables e below (T2.setTop (mkF m 119 #[.val (.int (5 : Int32))] [(.ref w1)])) _
    jvm_step X2.here [X2.here.top, hx, (hb hby d1_119), X2.method', Bd.returns, Value.isRef, FieldType.isReference]
    first | (intro acts; rw [hr _ acts rfl rfl rfl]) | rw [hr _ _ rfl rfl rfl]
    exact Steps.refl _
  · show Q_rm1_5 Z w1 h0 n0 _ T2.heap _
    rw [e2]
    exact ⟨rfl, N0, rfl⟩
theorem d1_120 : decode method_2_code 120 = .ok (.getstatic 28, 3) := by decide +kernel
theorem d1_123 : decode method_2_code 123 = .ok (.areturn, 1) := by decide +kernel
theorem ef_1_6 (m : MethodId)  : entryFrame m #[(.int (6 : Int32))] 1 = mkF m 0 #[.val (.int (6 : Int32))] [] := by first | (simp [entryFrame, mkF, argsToLocals, Value.category]; done) | rfl
def Q_rm1_6 (Z : State) (w1 : Addr) (h0 : Heap) (n0 : Nat) (v : Option Value) (h : Heap) (L : List Loc) : Prop := v = some (.ref w1) ∧ Fr n0 L ∧ h = h0
set_option maxRecDepth 65536 in
set_option maxHeartbeats 40000000 in
theorem rm1_6 (l : Launch) (Z : State) (a0 : Array Value) (hw : ∀ d ∈ tables_1, d.before a0 Z = true) (ws : List Jvm.Cond) (w1 : Addr) (h0 : Heap) (n0 : Nat) (OL0 : Old Z n0 h0) (pr1 : Sta Z Z.heap "com/example/facility_atlas/facilityatlas/Rating" "A_MINUS" "Lcom/example/facility_atlas/facilityatlas/Rating;" (.ref w1)) :
    MetFree l (⟨"com/example/facility_atlas/facilityatlas/RatingGradesApartPinLaw", "grade", "(I)Lcom/example/facility_atlas/facilityatlas/Rating;"⟩ : MethodName) (head1 (Jvm.Cond.code (⟨"com/example/facility_atlas/facilityatlas/RatingGradesApartPinLaw", "grade", "(I)Lcom/example/facility_atlas/facilityatlas/Rating;"⟩ : MethodName) method_2_code 1 (some (.object "com/example/facility_atlas/facilityatlas/Rating")) :: ws) ({ frames := 0, cells := 0, slots := 0, locals := 0 } : Room)) (fun a U => a = #[(.int (6 : Int32))] ∧ Z.Warmed39 U.vm ∧ U.heap = h0) (fun _ _ _ _ _ => True) (fun _ U o U' => ∃ v L, o = .returned v ∧ Q_rm1_6 Z w1 h0 n0 v U'.heap L ∧ FrameEnd U o U' L ({ frames := 0, cells := 0, slots := 0, locals := 0 } : Room).cells ({ frames := 0, cells := 0, slots := 0, locals := 0 } : Room).slots) := by
  refine MetFree.of_bodySF (plainFor_of_name pn_0) hisR ?_
  intro p e s m args below meth c s₁ Bd hml0 hP hK
  obtain ⟨rfl, hZ, hh⟩ := hP
  have hx := Bd.exec
  have hby := Bd.bytes
  have hml : c.maxLocals = 1 := hml0
  have hown : s.vm.findClass "com/example/facility_atlas/facilityatlas/RatingGradesApartPinLaw" = some m.cls := findClass_of_methodNamed Bd.named
  have hnm := (name_of_methodNamed Bd.named Bd.method).1
  have X0 : Stand p l e ({ frames := 0, cells := 0, slots := 0, locals := 0 } : Room) s m #[(.int (6 : Int32))] below meth c s₁ [] 0 0 := Stand.of_body Bd
  have e0 : s₁.heap = h0 := by rw [← hh, Bd.state]; rfl
  have N0 := Fr.nil n0
  have pre0 : ∀ t, Steps p.tables e below (s₁.setTop (mkF m 0 #[.val (.int (6 : Int32))] [])) t → Steps p.tables e below (s₁.setTop (entryFrame m #[(.int (6 : Int32))] 1)) t := fun t k => castTop (ef_1_6 m ) k
  obtain ⟨T2, X2, e2, st2⟩ := getS2 X0 hx hZ hown (host := "") (Or.inl (wd42 hw)) Via.refl e0 (pr1.ext OL0.2) (g := (mkF m 120 #[.val (.int (6 : Int32))] [])) rfl (hb hby d1_120)
  obtain ⟨fs, hr, hrun, hended, hW, hsame⟩ := X2.leave (v := some (.ref w1)) (fun h => by rw [Bd.returns] at h; cases h)
  refine ⟨_, _, pre0 _ ?_, hrun, hended, _, _, rfl, ?_, ⟨_, rfl⟩, hW, hsame.mono (by decide) (by decide)⟩
  · show Steps p.tables e below (s₁.setTop (mkF m 0 #[.val (.int (6 : Int32))] [])) _
    refine XS.iloadN X0.here hx rfl (hb hby d1_0) rfl ?_
    show Steps p.tables e below (s₁.setTop (mkF m 1 #[.val (.int (6 : Int32))] [(.int (6 : Int32))])) _
    refine XS.tswIn X0.here hx rfl (pc0 := 1) (pc' := 120) (o := 119) rfl (hb hby d1_1) rfl (by decide) (by decide) (by decide) (by decide) ?_
    show Steps p.tables e below (s₁.setTop (mkF m 120 #[.val (.int (6 : Int32))] [])) _
    refine st2 _ ?_
    show Steps p.tables e below (T2.setTop (mkF m 123 #[.val (.int (6 : Int32))] [(.ref w1)])) _
    jvm_step X2.here [X2.here.top, hx, (hb hby d1_123), X2.method', Bd.returns, Value.isRef, FieldType.isReference]
    first | (intro acts; rw [hr _ acts rfl rfl rfl]) | rw [hr _ _ rfl rfl rfl]
    exact Steps.refl _
  · show Q_rm1_6 Z w1 h0 n0 _ T2.heap _
    rw [e2]
    exact ⟨rfl, N0, rfl⟩
theorem d1_124 : decode method_2_code 124 = .ok (.getstatic 31, 3) := by decide +kernel
theorem d1_127 : decode method_2_code 127 = .ok (.areturn, 1) := by decide +kernel
theorem ef_1_7 (m : MethodId)  : entryFrame m #[(.int (7 : Int32))] 1 = mkF m 0 #[.val (.int (7 : Int32))] [] := by first | (simp [entryFrame, mkF, argsToLocals, Value.category]; done) | rfl
def Q_rm1_7 (Z : State) (w1 : Addr) (h0 : Heap) (n0 : Nat) (v : Option Value) (h : Heap) (L : List Loc) : Prop := v = some (.ref w1) ∧ Fr n0 L ∧ h = h0
set_option maxRecDepth 65536 in
set_option maxHeartbeats 40000000 in
theorem rm1_7 (l : Launch) (Z : State) (a0 : Array Value) (hw : ∀ d ∈ tables_1, d.before a0 Z = true) (ws : List Jvm.Cond) (w1 : Addr) (h0 : Heap) (n0 : Nat) (OL0 : Old Z n0 h0) (pr1 : Sta Z Z.heap "com/example/facility_atlas/facilityatlas/Rating" "BBB_PLUS" "Lcom/example/facility_atlas/facilityatlas/Rating;" (.ref w1)) :
    MetFree l (⟨"com/example/facility_atlas/facilityatlas/RatingGradesApartPinLaw", "grade", "(I)Lcom/example/facility_atlas/facilityatlas/Rating;"⟩ : MethodName) (head1 (Jvm.Cond.code (⟨"com/example/facility_atlas/facilityatlas/RatingGradesApartPinLaw", "grade", "(I)Lcom/example/facility_atlas/facilityatlas/Rating;"⟩ : MethodName) method_2_code 1 (some (.object "com/example/facility_atlas/facilityatlas/Rating")) :: ws) ({ frames := 0, cells := 0, slots := 0, locals := 0 } : Room)) (fun a U => a = #[(.int (7 : Int32))] ∧ Z.Warmed39 U.vm ∧ U.heap = h0) (fun _ _ _ _ _ => True) (fun _ U o U' => ∃ v L, o = .returned v ∧ Q_rm1_7 Z w1 h0 n0 v U'.heap L ∧ FrameEnd U o U' L ({ frames := 0, cells := 0, slots := 0, locals := 0 } : Room).cells ({ frames := 0, cells := 0, slots := 0, locals := 0 } : Room).slots) := by
  refine MetFree.of_bodySF (plainFor_of_name pn_0) hisR ?_
  intro p e s m args below meth c s₁ Bd hml0 hP hK
  obtain ⟨rfl, hZ, hh⟩ := hP
  have hx := Bd.exec
  have hby := Bd.bytes
  have hml : c.maxLocals = 1 := hml0
  have hown : s.vm.findClass "com/example/facility_atlas/facilityatlas/RatingGradesApartPinLaw" = some m.cls := findClass_of_methodNamed Bd.named
  have hnm := (name_of_methodNamed Bd.named Bd.method).1
  have X0 : Stand p l e ({ frames := 0, cells := 0, slots := 0, locals := 0 } : Room) s m #[(.int (7 : Int32))] below meth c s₁ [] 0 0 := Stand.of_body Bd
  have e0 : s₁.heap = h0 := by rw [← hh, Bd.state]; rfl
  have N0 := Fr.nil n0
  have pre0 : ∀ t, Steps p.tables e below (s₁.setTop (mkF m 0 #[.val (.int (7 : Int32))] [])) t → Steps p.tables e below (s₁.setTop (entryFrame m #[(.int (7 : Int32))] 1)) t := fun t k => castTop (ef_1_7 m ) k
  obtain ⟨T2, X2, e2, st2⟩ := getS2 X0 hx hZ hown (host := "") (Or.inl (wd58 hw)) Via.refl e0 (pr1.ext OL0.2) (g := (mkF m 124 #[.val (.int (7 : Int32))] [])) rfl (hb hby d1_124)
  obtain ⟨fs, hr, hrun, hended, hW, hsame⟩ := X2.leave (v := some (.ref w1)) (fun h => by rw [Bd.returns] at h; cases h)
  refine ⟨_, _, pre0 _ ?_, hrun, hended, _, _, rfl, ?_, ⟨_, rfl⟩, hW, hsame.mono (by decide) (by decide)⟩
  · show Steps p.tables e below (s₁.setTop (mkF m 0 #[.val (.int (7 : Int32))] [])) _
    refine XS.iloadN X0.here hx rfl (hb hby d1_0) rfl ?_
    show Steps p.tables e below (s₁.setTop (mkF m 1 #[.val (.int (7 : Int32))] [(.int (7 : Int32))])) _
    refine XS.tswIn X0.here hx rfl (pc0 := 1) (pc' := 124) (o := 123) rfl (hb hby d1_1) rfl (by decide) (by decide) (by decide) (by decide) ?_
    show Steps p.tables e below (s₁.setTop (mkF m 124 #[.val (.int (7 : Int32))] [])) _
    refine st2 _ ?_
    show Steps p.tables e below (T2.setTop (mkF m 127 #[.val (.int (7 : Int32))] [(.ref w1)])) _
    jvm_step X2.here [X2.here.top, hx, (hb hby d1_127), X2.method', Bd.returns, Value.isRef, FieldType.isReference]
    first | (intro acts; rw [hr _ acts rfl rfl rfl]) | rw [hr _ _ rfl rfl rfl]
    exact Steps.refl _
  · show Q_rm1_7 Z w1 h0 n0 _ T2.heap _
    rw [e2]
    exact ⟨rfl, N0, rfl⟩
theorem d1_128 : decode method_2_code 128 = .ok (.getstatic 34, 3) := by decide +kernel
theorem d1_131 : decode method_2_code 131 = .ok (.areturn, 1) := by decide +kernel
theorem ef_1_8 (m : MethodId)  : entryFrame m #[(.int (8 : Int32))] 1 = mkF m 0 #[.val (.int (8 : Int32))] [] := by first | (simp [entryFrame, mkF, argsToLocals, Value.category]; done) | rfl
def Q_rm1_8 (Z : State) (w1 : Addr) (h0 : Heap) (n0 : Nat) (v : Option Value) (h : Heap) (L : List Loc) : Prop := v = some (.ref w1) ∧ Fr n0 L ∧ h = h0
set_option maxRecDepth 65536 in
set_option maxHeartbeats 40000000 in
theorem rm1_8 (l : Launch) (Z : State) (a0 : Array Value) (hw : ∀ d ∈ tables_1, d.before a0 Z = true) (ws : List Jvm.Cond) (w1 : Addr) (h0 : Heap) (n0 : Nat) (OL0 : Old Z n0 h0) (pr1 : Sta Z Z.heap "com/example/facility_atlas/facilityatlas/Rating" "BBB" "Lcom/example/facility_atlas/facilityatlas/Rating;" (.ref w1)) :
    MetFree l (⟨"com/example/facility_atlas/facilityatlas/RatingGradesApartPinLaw", "grade", "(I)Lcom/example/facility_atlas/facilityatlas/Rating;"⟩ : MethodName) (head1 (Jvm.Cond.code (⟨"com/example/facility_atlas/facilityatlas/RatingGradesApartPinLaw", "grade", "(I)Lcom/example/facility_atlas/facilityatlas/Rating;"⟩ : MethodName) method_2_code 1 (some (.object "com/example/facility_atlas/facilityatlas/Rating")) :: ws) ({ frames := 0, cells := 0, slots := 0, locals := 0 } : Room)) (fun a U => a = #[(.int (8 : Int32))] ∧ Z.Warmed39 U.vm ∧ U.heap = h0) (fun _ _ _ _ _ => True) (fun _ U o U' => ∃ v L, o = .returned v ∧ Q_rm1_8 Z w1 h0 n0 v U'.heap L ∧ FrameEnd U o U' L ({ frames := 0, cells := 0, slots := 0, locals := 0 } : Room).cells ({ frames := 0, cells := 0, slots := 0, locals := 0 } : Room).slots) := by
  refine MetFree.of_bodySF (plainFor_of_name pn_0) hisR ?_
  intro p e s m args below meth c s₁ Bd hml0 hP hK
  obtain ⟨rfl, hZ, hh⟩ := hP
  have hx := Bd.exec
  have hby := Bd.bytes
  have hml : c.maxLocals = 1 := hml0
  have hown : s.vm.findClass "com/example/facility_atlas/facilityatlas/RatingGradesApartPinLaw" = some m.cls := findClass_of_methodNamed Bd.named
  have hnm := (name_of_methodNamed Bd.named Bd.method).1
  have X0 : Stand p l e ({ frames := 0, cells := 0, slots := 0, locals := 0 } : Room) s m #[(.int (8 : Int32))] below meth c s₁ [] 0 0 := Stand.of_body Bd
  have e0 : s₁.heap = h0 := by rw [← hh, Bd.state]; rfl
  have N0 := Fr.nil n0
  have pre0 : ∀ t, Steps p.tables e below (s₁.setTop (mkF m 0 #[.val (.int (8 : Int32))] [])) t → Steps p.tables e below (s₁.setTop (entryFrame m #[(.int (8 : Int32))] 1)) t := fun t k => castTop (ef_1_8 m ) k
  obtain ⟨T2, X2, e2, st2⟩ := getS2 X0 hx hZ hown (host := "") (Or.inl (wd34 hw)) Via.refl e0 (pr1.ext OL0.2) (g := (mkF m 128 #[.val (.int (8 : Int32))] [])) rfl (hb hby d1_128)
  obtain ⟨fs, hr, hrun, hended, hW, hsame⟩ := X2.leave (v := some (.ref w1)) (fun h => by rw [Bd.returns] at h; cases h)
  refine ⟨_, _, pre0 _ ?_, hrun, hended, _, _, rfl, ?_, ⟨_, rfl⟩, hW, hsame.mono (by decide) (by decide)⟩
  · show Steps p.tables e below (s₁.setTop (mkF m 0 #[.val (.int (8 : Int32))] [])) _
    refine XS.iloadN X0.here hx rfl (hb hby d1_0) rfl ?_
    show Steps p.tables e below (s₁.setTop (mkF m 1 #[.val (.int (8 : Int32))] [(.int (8 : Int32))])) _
    refine XS.tswIn X0.here hx rfl (pc0 := 1) (pc' := 128) (o := 127) rfl (hb hby d1_1) rfl (by decide) (by decide) (by decide) (by decide) ?_
    show Steps p.tables e below (s₁.setTop (mkF m 128 #[.val (.int (8 : Int32))] [])) _
    refine st2 _ ?_
    show Steps p.tables e below (T2.setTop (mkF m 131 #[.val (.int (8 : Int32))] [(.ref w1)])) _
    jvm_step X2.here [X2.here.top, hx, (hb hby d1_131), X2.method', Bd.returns, Value.isRef, FieldType.isReference]
    first | (intro acts; rw [hr _ acts rfl rfl rfl]) | rw [hr _ _ rfl rfl rfl]
    exact Steps.refl _
  · show Q_rm1_8 Z w1 h0 n0 _ T2.heap _
    rw [e2]
    exact ⟨rfl, N0, rfl⟩
theorem d1_132 : decode method_2_code 132 = .ok (.getstatic 37, 3) := by decide +kernel
theorem d1_135 : decode method_2_code 135 = .ok (.areturn, 1) := by decide +kernel
theorem ef_1_9 (m : MethodId)  : entryFrame m #[(.int (9 : Int32))] 1 = mkF m 0 #[.val (.int (9 : Int32))] [] := by first | (simp [entryFrame, mkF, argsToLocals, Value.category]; done) | rfl
def Q_rm1_9 (Z : State) (w1 : Addr) (h0 : Heap) (n0 : Nat) (v : Option Value) (h : Heap) (L : List Loc) : Prop := v = some (.ref w1) ∧ Fr n0 L ∧ h = h0
set_option maxRecDepth 65536 in
set_option maxHeartbeats 40000000 in
theorem rm1_9 (l : Launch) (Z : State) (a0 : Array Value) (hw : ∀ d ∈ tables_1, d.before a0 Z = true) (ws : List Jvm.Cond) (w1 : Addr) (h0 : Heap) (n0 : Nat) (OL0 : Old Z n0 h0) (pr1 : Sta Z Z.heap "com/example/facility_atlas/facilityatlas/Rating" "BBB_MINUS" "Lcom/example/facility_atlas/facilityatlas/Rating;" (.ref w1)) :
    MetFree l (⟨"com/example/facility_atlas/facilityatlas/RatingGradesApartPinLaw", "grade", "(I)Lcom/example/facility_atlas/facilityatlas/Rating;"⟩ : MethodName) (head1 (Jvm.Cond.code (⟨"com/example/facility_atlas/facilityatlas/RatingGradesApartPinLaw", "grade", "(I)Lcom/example/facility_atlas/facilityatlas/Rating;"⟩ : MethodName) method_2_code 1 (some (.object "com/example/facility_atlas/facilityatlas/Rating")) :: ws) ({ frames := 0, cells := 0, slots := 0, locals := 0 } : Room)) (fun a U => a = #[(.int (9 : Int32))] ∧ Z.Warmed39 U.vm ∧ U.heap = h0) (fun _ _ _ _ _ => True) (fun _ U o U' => ∃ v L, o = .returned v ∧ Q_rm1_9 Z w1 h0 n0 v U'.heap L ∧ FrameEnd U o U' L ({ frames := 0, cells := 0, slots := 0, locals := 0 } : Room).cells ({ frames := 0, cells := 0, slots := 0, locals := 0 } : Room).slots) := by
  refine MetFree.of_bodySF (plainFor_of_name pn_0) hisR ?_
  intro p e s m args below meth c s₁ Bd hml0 hP hK
  obtain ⟨rfl, hZ, hh⟩ := hP
  have hx := Bd.exec
  have hby := Bd.bytes
  have hml : c.maxLocals = 1 := hml0
  have hown : s.vm.findClass "com/example/facility_atlas/facilityatlas/RatingGradesApartPinLaw" = some m.cls := findClass_of_methodNamed Bd.named
  have hnm := (name_of_methodNamed Bd.named Bd.method).1
  have X0 : Stand p l e ({ frames := 0, cells := 0, slots := 0, locals := 0 } : Room) s m #[(.int (9 : Int32))] below meth c s₁ [] 0 0 := Stand.of_body Bd
  have e0 : s₁.heap = h0 := by rw [← hh, Bd.state]; rfl
  have N0 := Fr.nil n0
  have pre0 : ∀ t, Steps p.tables e below (s₁.setTop (mkF m 0 #[.val (.int (9 : Int32))] [])) t → Steps p.tables e below (s₁.setTop (entryFrame m #[(.int (9 : Int32))] 1)) t := fun t k => castTop (ef_1_9 m ) k
  obtain ⟨T2, X2, e2, st2⟩ := getS2 X0 hx hZ hown (host := "") (Or.inl (wd60 hw)) Via.refl e0 (pr1.ext OL0.2) (g := (mkF m 132 #[.val (.int (9 : Int32))] [])) rfl (hb hby d1_132)
  obtain ⟨fs, hr, hrun, hended, hW, hsame⟩ := X2.leave (v := some (.ref w1)) (fun h => by rw [Bd.returns] at h; cases h)
  refine ⟨_, _, pre0 _ ?_, hrun, hended, _, _, rfl, ?_, ⟨_, rfl⟩, hW, hsame.mono (by decide) (by decide)⟩
  · show Steps p.tables e below (s₁.setTop (mkF m 0 #[.val (.int (9 : Int32))] [])) _
    refine XS.iloadN X0.here hx rfl (hb hby d1_0) rfl ?_
    show Steps p.tables e below (s₁.setTop (mkF m 1 #[.val (.int (9 : Int32))] [(.int (9 : Int32))])) _
    refine XS.tswIn X0.here hx rfl (pc0 := 1) (pc' := 132) (o := 131) rfl (hb hby d1_1) rfl (by decide) (by decide) (by decide) (by decide) ?_
    show Steps p.tables e below (s₁.setTop (mkF m 132 #[.val (.int (9 : Int32))] [])) _
    refine st2 _ ?_
    show Steps p.tables e below (T2.setTop (mkF m 135 #[.val (.int (9 : Int32))] [(.ref w1)])) _
    jvm_step X2.here [X2.here.top, hx, (hb hby d1_135), X2.method', Bd.returns, Value.isRef, FieldType.isReference]
    first | (intro acts; rw [hr _ acts rfl rfl rfl]) | rw [hr _ _ rfl rfl rfl]
    exact Steps.refl _
  · show Q_rm1_9 Z w1 h0 n0 _ T2.heap _
    rw [e2]
    exact ⟨rfl, N0, rfl⟩
theorem d1_136 : decode method_2_code 136 = .ok (.getstatic 40, 3) := by decide +kernel
theorem d1_139 : decode method_2_code 139 = .ok (.areturn, 1) := by decide +kernel
theorem ef_1_10 (m : MethodId)  : entryFrame m #[(.int (10 : Int32))] 1 = mkF m 0 #[.val (.int (10 : Int32))] [] := by first | (simp [entryFrame, mkF, argsToLocals, Value.category]; done) | rfl
def Q_rm1_10 (Z : State) (w1 : Addr) (h0 : Heap) (n0 : Nat) (v : Option Value) (h : Heap) (L : List Loc) : Prop := v = some (.ref w1) ∧ Fr n0 L ∧ h = h0
set_option maxRecDepth 65536 in
set_option maxHeartbeats 40000000 in
theorem rm1_10 (l : Launch) (Z : State) (a0 : Array Value) (hw : ∀ d ∈ tables_1, d.before a0 Z = true) (ws : List Jvm.Cond) (w1 : Addr) (h0 : Heap) (n0 : Nat) (OL0 : Old Z n0 h0) (pr1 : Sta Z Z.heap "com/example/facility_atlas/facilityatlas/Rating" "BB_PLUS" "Lcom/example/facility_atlas/facilityatlas/Rating;" (.ref w1)) :
    MetFree l (⟨"com/example/facility_atlas/facilityatlas/RatingGradesApartPinLaw", "grade", "(I)Lcom/example/facility_atlas/facilityatlas/Rating;"⟩ : MethodName) (head1 (Jvm.Cond.code (⟨"com/example/facility_atlas/facilityatlas/RatingGradesApartPinLaw", "grade", "(I)Lcom/example/facility_atlas/facilityatlas/Rating;"⟩ : MethodName) method_2_code 1 (some (.object "com/example/facility_atlas/facilityatlas/Rating")) :: ws) ({ frames := 0, cells := 0, slots := 0, locals := 0 } : Room)) (fun a U => a = #[(.int (10 : Int32))] ∧ Z.Warmed39 U.vm ∧ U.heap = h0) (fun _ _ _ _ _ => True) (fun _ U o U' => ∃ v L, o = .returned v ∧ Q_rm1_10 Z w1 h0 n0 v U'.heap L ∧ FrameEnd U o U' L ({ frames := 0, cells := 0, slots := 0, locals := 0 } : Room).cells ({ frames := 0, cells := 0, slots := 0, locals := 0 } : Room).slots) := by
  refine MetFree.of_bodySF (plainFor_of_name pn_0) hisR ?_
  intro p e s m args below meth c s₁ Bd hml0 hP hK
  obtain ⟨rfl, hZ, hh⟩ := hP
  have hx := Bd.exec
  have hby := Bd.bytes
  have hml : c.maxLocals = 1 := hml0
  have hown : s.vm.findClass "com/example/facility_atlas/facilityatlas/RatingGradesApartPinLaw" = some m.cls := findClass_of_methodNamed Bd.named
  have hnm := (name_of_methodNamed Bd.named Bd.method).1
  have X0 : Stand p l e ({ frames := 0, cells := 0, slots := 0, locals := 0 } : Room) s m #[(.int (10 : Int32))] below meth c s₁ [] 0 0 := Stand.of_body Bd
  have e0 : s₁.heap = h0 := by rw [← hh, Bd.state]; rfl
  have N0 := Fr.nil n0
  have pre0 : ∀ t, Steps p.tables e below (s₁.setTop (mkF m 0 #[.val (.int (10 : Int32))] [])) t → Steps p.tables e below (s₁.setTop (entryFrame m #[(.int (10 : Int32))] 1)) t := fun t k => castTop (ef_1_10 m ) k
  obtain ⟨T2, X2, e2, st2⟩ := getS2 X0 hx hZ hown (host := "") (Or.inl (wd44 hw)) Via.refl e0 (pr1.ext OL0.2) (g := (mkF m 136 #[.val (.int (10 : Int32))] [])) rfl (hb hby d1_136)
  obtain ⟨fs, hr, hrun, hended, hW, hsame⟩ := X2.leave (v := some (.ref w1)) (fun h => by rw [Bd.returns] at h; cases h)
  refine ⟨_, _, pre0 _ ?_, hrun, hended, _, _, rfl, ?_, ⟨_, rfl⟩, hW, hsame.mono (by decide) (by decide)⟩
  · show Steps p.tables e below (s₁.setTop (mkF m 0 #[.val (.int (10 : Int32))] [])) _
    refine XS.iloadN X0.here hx rfl (hb hby d1_0) rfl ?_
    show Steps p.tables e below (s₁.setTop (mkF m 1 #[.val (.int (10 : Int32))] [(.int (10 : Int32))])) _
    refine XS.tswIn X0.here hx rfl (pc0 := 1) (pc' := 136) (o := 135) rfl (hb hby d1_1) rfl (by decide) (by decide) (by decide) (by decide) ?_
    show Steps p.tables e below (s₁.setTop (mkF m 136 #[.val (.int (10 : Int32))] [])) _
    refine st2 _ ?_
    show Steps p.tables e below (T2.setTop (mkF m 139 #[.val (.int (10 : Int32))] [(.ref w1)])) _
    jvm_step X2.here [X2.here.top, hx, (hb hby d1_139), X2.method', Bd.returns, Value.isRef, FieldType.isReference]
    first | (intro acts; rw [hr _ acts rfl rfl rfl]) | rw [hr _ _ rfl rfl rfl]
    exact Steps.refl _
  · show Q_rm1_10 Z w1 h0 n0 _ T2.heap _
    rw [e2]
    exact ⟨rfl, N0, rfl⟩
theorem d1_140 : decode method_2_code 140 = .ok (.getstatic 43, 3) := by decide +kernel
theorem d1_143 : decode method_2_code 143 = .ok (.areturn, 1) := by decide +kernel
theorem ef_1_11 (m : MethodId)  : entryFrame m #[(.int (11 : Int32))] 1 = mkF m 0 #[.val (.int (11 : Int32))] [] := by first | (simp [entryFrame, mkF, argsToLocals, Value.category]; done) | rfl
def Q_rm1_11 (Z : State) (w1 : Addr) (h0 : Heap) (n0 : Nat) (v : Option Value) (h : Heap) (L : List Loc) : Prop := v = some (.ref w1) ∧ Fr n0 L ∧ h = h0
set_option maxRecDepth 65536 in
set_option maxHeartbeats 40000000 in
theorem rm1_11 (l : Launch) (Z : State) (a0 : Array Value) (hw : ∀ d ∈ tables_1, d.before a0 Z = true) (ws : List Jvm.Cond) (w1 : Addr) (h0 : Heap) (n0 : Nat) (OL0 : Old Z n0 h0) (pr1 : Sta Z Z.heap "com/example/facility_atlas/facilityatlas/Rating" "BB" "Lcom/example/facility_atlas/facilityatlas/Rating;" (.ref w1)) :
    MetFree l (⟨"com/example/facility_atlas/facilityatlas/RatingGradesApartPinLaw", "grade", "(I)Lcom/example/facility_atlas/facilityatlas/Rating;"⟩ : MethodName) (head1 (Jvm.Cond.code (⟨"com/example/facility_atlas/facilityatlas/RatingGradesApartPinLaw", "grade", "(I)Lcom/example/facility_atlas/facilityatlas/Rating;"⟩ : MethodName) method_2_code 1 (some (.object "com/example/facility_atlas/facilityatlas/Rating")) :: ws) ({ frames := 0, cells := 0, slots := 0, locals := 0 } : Room)) (fun a U => a = #[(.int (11 : Int32))] ∧ Z.Warmed39 U.vm ∧ U.heap = h0) (fun _ _ _ _ _ => True) (fun _ U o U' => ∃ v L, o = .returned v ∧ Q_rm1_11 Z w1 h0 n0 v U'.heap L ∧ FrameEnd U o U' L ({ frames := 0, cells := 0, slots := 0, locals := 0 } : Room).cells ({ frames := 0, cells := 0, slots := 0, locals := 0 } : Room).slots) := by
  refine MetFree.of_bodySF (plainFor_of_name pn_0) hisR ?_
  intro p e s m args below meth c s₁ Bd hml0 hP hK
  obtain ⟨rfl, hZ, hh⟩ := hP
  have hx := Bd.exec
  have hby := Bd.bytes
  have hml : c.maxLocals = 1 := hml0
  have hown : s.vm.findClass "com/example/facility_atlas/facilityatlas/RatingGradesApartPinLaw" = some m.cls := findClass_of_methodNamed Bd.named
  have hnm := (name_of_methodNamed Bd.named Bd.method).1
  have X0 : Stand p l e ({ frames := 0, cells := 0, slots := 0, locals := 0 } : Room) s m #[(.int (11 : Int32))] below meth c s₁ [] 0 0 := Stand.of_body Bd
  have e0 : s₁.heap = h0 := by rw [← hh, Bd.state]; rfl
  have N0 := Fr.nil n0
  have pre0 : ∀ t, Steps p.tables e below (s₁.setTop (mkF m 0 #[.val (.int (11 : Int32))] [])) t → Steps p.tables e below (s₁.setTop (entryFrame m #[(.int (11 : Int32))] 1)) t := fun t k => castTop (ef_1_11 m ) k
  obtain ⟨T2, X2, e2, st2⟩ := getS2 X0 hx hZ hown (host := "") (Or.inl (wd54 hw)) Via.refl e0 (pr1.ext OL0.2) (g := (mkF m 140 #[.val (.int (11 : Int32))] [])) rfl (hb hby d1_140)
  obtain ⟨fs, hr, hrun, hended, hW, hsame⟩ := X2.leave (v := some (.ref w1)) (fun h => by rw [Bd.returns] at h; cases h)
  refine ⟨_, _, pre0 _ ?_, hrun, hended, _, _, rfl, ?_, ⟨_, rfl⟩, hW, hsame.mono (by decide) (by decide)⟩
  · show Steps p.tables e below (s₁.setTop (mkF m 0 #[.val (.int (11 : Int32))] [])) _
    refine XS.iloadN X0.here hx rfl (hb hby d1_0) rfl ?_
    show Steps p.tables e below (s₁.setTop (mkF m 1 #[.val (.int (11 : Int32))] [(.int (11 : Int32))])) _
    refine XS.tswIn X0.here hx rfl (pc0 := 1) (pc' := 140) (o := 139) rfl (hb hby d1_1) rfl (by decide) (by decide) (by decide) (by decide) ?_
    show Steps p.tables e below (s₁.setTop (mkF m 140 #[.val (.int (11 : Int32))] [])) _
    refine st2 _ ?_
    show Steps p.tables e below (T2.setTop (mkF m 143 #[.val (.int (11 : Int32))] [(.ref w1)])) _
    jvm_step X2.here [X2.here.top, hx, (hb hby d1_143), X2.method', Bd.returns, Value.isRef, FieldType.isReference]
    first | (intro acts; rw [hr _ acts rfl rfl rfl]) | rw [hr _ _ rfl rfl rfl]
    exact Steps.refl _
  · show Q_rm1_11 Z w1 h0 n0 _ T2.heap _
    rw [e2]
    exact ⟨rfl, N0, rfl⟩
theorem d1_144 : decode method_2_code 144 = .ok (.getstatic 46, 3) := by decide +kernel
theorem d1_147 : decode method_2_code 147 = .ok (.areturn, 1) := by decide +kernel
theorem ef_1_12 (m : MethodId)  : entryFrame m #[(.int (12 : Int32))] 1 = mkF m 0 #[.val (.int (12 : Int32))] [] := by first | (simp [entryFrame, mkF, argsToLocals, Value.category]; done) | rfl
def Q_rm1_12 (Z : State) (w1 : Addr) (h0 : Heap) (n0 : Nat) (v : Option Value) (h : Heap) (L : List Loc) : Prop := v = some (.ref w1) ∧ Fr n0 L ∧ h = h0
set_option maxRecDepth 65536 in
set_option maxHeartbeats 40000000 in
theorem rm1_12 (l : Launch) (Z : State) (a0 : Array Value) (hw : ∀ d ∈ tables_1, d.before a0 Z = true) (ws : List Jvm.Cond) (w1 : Addr) (h0 : Heap) (n0 : Nat) (OL0 : Old Z n0 h0) (pr1 : Sta Z Z.heap "com/example/facility_atlas/facilityatlas/Rating" "BB_MINUS" "Lcom/example/facility_atlas/facilityatlas/Rating;" (.ref w1)) :
    MetFree l (⟨"com/example/facility_atlas/facilityatlas/RatingGradesApartPinLaw", "grade", "(I)Lcom/example/facility_atlas/facilityatlas/Rating;"⟩ : MethodName) (head1 (Jvm.Cond.code (⟨"com/example/facility_atlas/facilityatlas/RatingGradesApartPinLaw", "grade", "(I)Lcom/example/facility_atlas/facilityatlas/Rating;"⟩ : MethodName) method_2_code 1 (some (.object "com/example/facility_atlas/facilityatlas/Rating")) :: ws) ({ frames := 0, cells := 0, slots := 0, locals := 0 } : Room)) (fun a U => a = #[(.int (12 : Int32))] ∧ Z.Warmed39 U.vm ∧ U.heap = h0) (fun _ _ _ _ _ => True) (fun _ U o U' => ∃ v L, o = .returned v ∧ Q_rm1_12 Z w1 h0 n0 v U'.heap L ∧ FrameEnd U o U' L ({ frames := 0, cells := 0, slots := 0, locals := 0 } : Room).cells ({ frames := 0, cells := 0, slots := 0, locals := 0 } : Room).slots) := by
  refine MetFree.of_bodySF (plainFor_of_name pn_0) hisR ?_
  intro p e s m args below meth c s₁ Bd hml0 hP hK
  obtain ⟨rfl, hZ, hh⟩ := hP
  have hx := Bd.exec
  have hby := Bd.bytes
  have hml : c.maxLocals = 1 := hml0
  have hown : s.vm.findClass "com/example/facility_atlas/facilityatlas/RatingGradesApartPinLaw" = some m.cls := findClass_of_methodNamed Bd.named
  have hnm := (name_of_methodNamed Bd.named Bd.method).1
  have X0 : Stand p l e ({ frames := 0, cells := 0, slots := 0, locals := 0 } : Room) s m #[(.int (12 : Int32))] below meth c s₁ [] 0 0 := Stand.of_body Bd
  have e0 : s₁.heap = h0 := by rw [← hh, Bd.state]; rfl
  have N0 := Fr.nil n0
  have pre0 : ∀ t, Steps p.tables e below (s₁.setTop (mkF m 0 #[.val (.int (12 : Int32))] [])) t → Steps p.tables e below (s₁.setTop (entryFrame m #[(.int (12 : Int32))] 1)) t := fun t k => castTop (ef_1_12 m ) k
  obtain ⟨T2, X2, e2, st2⟩ := getS2 X0 hx hZ hown (host := "") (Or.inl (wd46 hw)) Via.refl e0 (pr1.ext OL0.2) (g := (mkF m 144 #[.val (.int (12 : Int32))] [])) rfl (hb hby d1_144)
  obtain ⟨fs, hr, hrun, hended, hW, hsame⟩ := X2.leave (v := some (.ref w1)) (fun h => by rw [Bd.returns] at h; cases h)
  refine ⟨_, _, pre0 _ ?_, hrun, hended, _, _, rfl, ?_, ⟨_, rfl⟩, hW, hsame.mono (by decide) (by decide)⟩
  · show Steps p.tables e below (s₁.setTop (mkF m 0 #[.val (.int (12 : Int32))] [])) _
    refine XS.iloadN X0.here hx rfl (hb hby d1_0) rfl ?_
    show Steps p.tables e below (s₁.setTop (mkF m 1 #[.val (.int (12 : Int32))] [(.int (12 : Int32))])) _
    refine XS.tswIn X0.here hx rfl (pc0 := 1) (pc' := 144) (o := 143) rfl (hb hby d1_1) rfl (by decide) (by decide) (by decide) (by decide) ?_
    show Steps p.tables e below (s₁.setTop (mkF m 144 #[.val (.int (12 : Int32))] [])) _
    refine st2 _ ?_
    show Steps p.tables e below (T2.setTop (mkF m 147 #[.val (.int (12 : Int32))] [(.ref w1)])) _
    jvm_step X2.here [X2.here.top, hx, (hb hby d1_147), X2.method', Bd.returns, Value.isRef, FieldType.isReference]
    first | (intro acts; rw [hr _ acts rfl rfl rfl]) | rw [hr _ _ rfl rfl rfl]
    exact Steps.refl _
  · show Q_rm1_12 Z w1 h0 n0 _ T2.heap _
    rw [e2]
    exact ⟨rfl, N0, rfl⟩
theorem d1_148 : decode method_2_code 148 = .ok (.getstatic 49, 3) := by decide +kernel
theorem d1_151 : decode method_2_code 151 = .ok (.areturn, 1) := by decide +kernel
theorem ef_1_13 (m : MethodId)  : entryFrame m #[(.int (13 : Int32))] 1 = mkF m 0 #[.val (.int (13 : Int32))] [] := by first | (simp [entryFrame, mkF, argsToLocals, Value.category]; done) | rfl
def Q_rm1_13 (Z : State) (w1 : Addr) (h0 : Heap) (n0 : Nat) (v : Option Value) (h : Heap) (L : List Loc) : Prop := v = some (.ref w1) ∧ Fr n0 L ∧ h = h0
set_option maxRecDepth 65536 in
set_option maxHeartbeats 40000000 in
theorem rm1_13 (l : Launch) (Z : State) (a0 : Array Value) (hw : ∀ d ∈ tables_1, d.before a0 Z = true) (ws : List Jvm.Cond) (w1 : Addr) (h0 : Heap) (n0 : Nat) (OL0 : Old Z n0 h0) (pr1 : Sta Z Z.heap "com/example/facility_atlas/facilityatlas/Rating" "B_PLUS" "Lcom/example/facility_atlas/facilityatlas/Rating;" (.ref w1)) :
    MetFree l (⟨"com/example/facility_atlas/facilityatlas/RatingGradesApartPinLaw", "grade", "(I)Lcom/example/facility_atlas/facilityatlas/Rating;"⟩ : MethodName) (head1 (Jvm.Cond.code (⟨"com/example/facility_atlas/facilityatlas/RatingGradesApartPinLaw", "grade", "(I)Lcom/example/facility_atlas/facilityatlas/Rating;"⟩ : MethodName) method_2_code 1 (some (.object "com/example/facility_atlas/facilityatlas/Rating")) :: ws) ({ frames := 0, cells := 0, slots := 0, locals := 0 } : Room)) (fun a U => a = #[(.int (13 : Int32))] ∧ Z.Warmed39 U.vm ∧ U.heap = h0) (fun _ _ _ _ _ => True) (fun _ U o U' => ∃ v L, o = .returned v ∧ Q_rm1_13 Z w1 h0 n0 v U'.heap L ∧ FrameEnd U o U' L ({ frames := 0, cells := 0, slots := 0, locals := 0 } : Room).cells ({ frames := 0, cells := 0, slots := 0, locals := 0 } : Room).slots) := by
  refine MetFree.of_bodySF (plainFor_of_name pn_0) hisR ?_
  intro p e s m args below meth c s₁ Bd hml0 hP hK
  obtain ⟨rfl, hZ, hh⟩ := hP
  have hx := Bd.exec
  have hby := Bd.bytes
  have hml : c.maxLocals = 1 := hml0
  have hown : s.vm.findClass "com/example/facility_atlas/facilityatlas/RatingGradesApartPinLaw" = some m.cls := findClass_of_methodNamed Bd.named
  have hnm := (name_of_methodNamed Bd.named Bd.method).1
  have X0 : Stand p l e ({ frames := 0, cells := 0, slots := 0, locals := 0 } : Room) s m #[(.int (13 : Int32))] below meth c s₁ [] 0 0 := Stand.of_body Bd
  have e0 : s₁.heap = h0 := by rw [← hh, Bd.state]; rfl
  have N0 := Fr.nil n0
  have pre0 : ∀ t, Steps p.tables e below (s₁.setTop (mkF m 0 #[.val (.int (13 : Int32))] [])) t → Steps p.tables e below (s₁.setTop (entryFrame m #[(.int (13 : Int32))] 1)) t := fun t k => castTop (ef_1_13 m ) k
  obtain ⟨T2, X2, e2, st2⟩ := getS2 X0 hx hZ hown (host := "") (Or.inl (wd40 hw)) Via.refl e0 (pr1.ext OL0.2) (g := (mkF m 148 #[.val (.int (13 : Int32))] [])) rfl (hb hby d1_148)
  obtain ⟨fs, hr, hrun, hended, hW, hsame⟩ := X2.leave (v := some (.ref w1)) (fun h => by rw [Bd.returns] at h; cases h)
  refine ⟨_, _, pre0 _ ?_, hrun, hended, _, _, rfl, ?_, ⟨_, rfl⟩, hW, hsame.mono (by decide) (by decide)⟩
  · show Steps p.tables e below (s₁.setTop (mkF m 0 #[.val (.int (13 : Int32))] [])) _
    refine XS.iloadN X0.here hx rfl (hb hby d1_0) rfl ?_
    show Steps p.tables e below (s₁.setTop (mkF m 1 #[.val (.int (13 : Int32))] [(.int (13 : Int32))])) _
    refine XS.tswIn X0.here hx rfl (pc0 := 1) (pc' := 148) (o := 147) rfl (hb hby d1_1) rfl (by decide) (by decide) (by decide) (by decide) ?_
    show Steps p.tables e below (s₁.setTop (mkF m 148 #[.val (.int (13 : Int32))] [])) _
    refine st2 _ ?_
    show Steps p.tables e below (T2.setTop (mkF m 151 #[.val (.int (13 : Int32))] [(.ref w1)])) _
    jvm_step X2.here [X2.here.top, hx, (hb hby d1_151), X2.method', Bd.returns, Value.isRef, FieldType.isReference]
    first | (intro acts; rw [hr _ acts rfl rfl rfl]) | rw [hr _ _ rfl rfl rfl]
    exact Steps.refl _
  · show Q_rm1_13 Z w1 h0 n0 _ T2.heap _
    rw [e2]
    exact ⟨rfl, N0, rfl⟩
theorem d1_152 : decode method_2_code 152 = .ok (.getstatic 52, 3) := by decide +kernel
theorem d1_155 : decode method_2_code 155 = .ok (.areturn, 1) := by decide +kernel
theorem ef_1_14 (m : MethodId)  : entryFrame m #[(.int (14 : Int32))] 1 = mkF m 0 #[.val (.int (14 : Int32))] [] := by first | (simp [entryFrame, mkF, argsToLocals, Value.category]; done) | rfl
def Q_rm1_14 (Z : State) (w1 : Addr) (h0 : Heap) (n0 : Nat) (v : Option Value) (h : Heap) (L : List Loc) : Prop := v = some (.ref w1) ∧ Fr n0 L ∧ h = h0
set_option maxRecDepth 65536 in
set_option maxHeartbeats 40000000 in
theorem rm1_14 (l : Launch) (Z : State) (a0 : Array Value) (hw : ∀ d ∈ tables_1, d.before a0 Z = true) (ws : List Jvm.Cond) (w1 : Addr) (h0 : Heap) (n0 : Nat) (OL0 : Old Z n0 h0) (pr1 : Sta Z Z.heap "com/example/facility_atlas/facilityatlas/Rating" "B" "Lcom/example/facility_atlas/facilityatlas/Rating;" (.ref w1)) :
    MetFree l (⟨"com/example/facility_atlas/facilityatlas/RatingGradesApartPinLaw", "grade", "(I)Lcom/example/facility_atlas/facilityatlas/Rating;"⟩ : MethodName) (head1 (Jvm.Cond.code (⟨"com/example/facility_atlas/facilityatlas/RatingGradesApartPinLaw", "grade", "(I)Lcom/example/facility_atlas/facilityatlas/Rating;"⟩ : MethodName) method_2_code 1 (some (.object "com/example/facility_atlas/facilityatlas/Rating")) :: ws) ({ frames := 0, cells := 0, slots := 0, locals := 0 } : Room)) (fun a U => a = #[(.int (14 : Int32))] ∧ Z.Warmed39 U.vm ∧ U.heap = h0) (fun _ _ _ _ _ => True) (fun _ U o U' => ∃ v L, o = .returned v ∧ Q_rm1_14 Z w1 h0 n0 v U'.heap L ∧ FrameEnd U o U' L ({ frames := 0, cells := 0, slots := 0, locals := 0 } : Room).cells ({ frames := 0, cells := 0, slots := 0, locals := 0 } : Room).slots) := by
  refine MetFree.of_bodySF (plainFor_of_name pn_0) hisR ?_
  intro p e s m args below meth c s₁ Bd hml0 hP hK
  obtain ⟨rfl, hZ, hh⟩ := hP
  have hx := Bd.exec
  have hby := Bd.bytes
  have hml : c.maxLocals = 1 := hml0
  have hown : s.vm.findClass "com/example/facility_atlas/facilityatlas/RatingGradesApartPinLaw" = some m.cls := findClass_of_methodNamed Bd.named
  have hnm := (name_of_methodNamed Bd.named Bd.method).1
  have X0 : Stand p l e ({ frames := 0, cells := 0, slots := 0, locals := 0 } : Room) s m #[(.int (14 : Int32))] below meth c s₁ [] 0 0 := Stand.of_body Bd
  have e0 : s₁.heap = h0 := by rw [← hh, Bd.state]; rfl
  have N0 := Fr.nil n0
  have pre0 : ∀ t, Steps p.tables e below (s₁.setTop (mkF m 0 #[.val (.int (14 : Int32))] [])) t → Steps p.tables e below (s₁.setTop (entryFrame m #[(.int (14 : Int32))] 1)) t := fun t k => castTop (ef_1_14 m ) k
  obtain ⟨T2, X2, e2, st2⟩ := getS2 X0 hx hZ hown (host := "") (Or.inl (wd28 hw)) Via.refl e0 (pr1.ext OL0.2) (g := (mkF m 152 #[.val (.int (14 : Int32))] [])) rfl (hb hby d1_152)
  obtain ⟨fs, hr, hrun, hended, hW, hsame⟩ := X2.leave (v := some (.ref w1)) (fun h => by rw [Bd.returns] at h; cases h)
  refine ⟨_, _, pre0 _ ?_, hrun, hended, _, _, rfl, ?_, ⟨_, rfl⟩, hW, hsame.mono (by decide) (by decide)⟩
  · show Steps p.tables e below (s₁.setTop (mkF m 0 #[.val (.int (14 : Int32))] [])) _
    refine XS.iloadN X0.here hx rfl (hb hby d1_0) rfl ?_
    show Steps p.tables e below (s₁.setTop (mkF m 1 #[.val (.int (14 : Int32))] [(.int (14 : Int32))])) _
    refine XS.tswIn X0.here hx rfl (pc0 := 1) (pc' := 152) (o := 151) rfl (hb hby d1_1) rfl (by decide) (by decide) (by decide) (by decide) ?_
    show Steps p.tables e below (s₁.setTop (mkF m 152 #[.val (.int (14 : Int32))] [])) _
    refine st2 _ ?_
    show Steps p.tables e below (T2.setTop (mkF m 155 #[.val (.int (14 : Int32))] [(.ref w1)])) _
    jvm_step X2.here [X2.here.top, hx, (hb hby d1_155), X2.method', Bd.returns, Value.isRef, FieldType.isReference]
    first | (intro acts; rw [hr _ acts rfl rfl rfl]) | rw [hr _ _ rfl rfl rfl]
    exact Steps.refl _
  · show Q_rm1_14 Z w1 h0 n0 _ T2.heap _
    rw [e2]
    exact ⟨rfl, N0, rfl⟩
theorem d1_156 : decode method_2_code 156 = .ok (.getstatic 55, 3) := by decide +kernel
theorem d1_159 : decode method_2_code 159 = .ok (.areturn, 1) := by decide +kernel
theorem ef_1_15 (m : MethodId)  : entryFrame m #[(.int (15 : Int32))] 1 = mkF m 0 #[.val (.int (15 : Int32))] [] := by first | (simp [entryFrame, mkF, argsToLocals, Value.category]; done) | rfl
def Q_rm1_15 (Z : State) (w1 : Addr) (h0 : Heap) (n0 : Nat) (v : Option Value) (h : Heap) (L : List Loc) : Prop := v = some (.ref w1) ∧ Fr n0 L ∧ h = h0
set_option maxRecDepth 65536 in
set_option maxHeartbeats 40000000 in
theorem rm1_15 (l : Launch) (Z : State) (a0 : Array Value) (hw : ∀ d ∈ tables_1, d.before a0 Z = true) (ws : List Jvm.Cond) (w1 : Addr) (h0 : Heap) (n0 : Nat) (OL0 : Old Z n0 h0) (pr1 : Sta Z Z.heap "com/example/facility_atlas/facilityatlas/Rating" "B_MINUS" "Lcom/example/facility_atlas/facilityatlas/Rating;" (.ref w1)) :
    MetFree l (⟨"com/example/facility_atlas/facilityatlas/RatingGradesApartPinLaw", "grade", "(I)Lcom/example/facility_atlas/facilityatlas/Rating;"⟩ : MethodName) (head1 (Jvm.Cond.code (⟨"com/example/facility_atlas/facilityatlas/RatingGradesApartPinLaw", "grade", "(I)Lcom/example/facility_atlas/facilityatlas/Rating;"⟩ : MethodName) method_2_code 1 (some (.object "com/example/facility_atlas/facilityatlas/Rating")) :: ws) ({ frames := 0, cells := 0, slots := 0, locals := 0 } : Room)) (fun a U => a = #[(.int (15 : Int32))] ∧ Z.Warmed39 U.vm ∧ U.heap = h0) (fun _ _ _ _ _ => True) (fun _ U o U' => ∃ v L, o = .returned v ∧ Q_rm1_15 Z w1 h0 n0 v U'.heap L ∧ FrameEnd U o U' L ({ frames := 0, cells := 0, slots := 0, locals := 0 } : Room).cells ({ frames := 0, cells := 0, slots := 0, locals := 0 } : Room).slots) := by
  refine MetFree.of_bodySF (plainFor_of_name pn_0) hisR ?_
  intro p e s m args below meth c s₁ Bd hml0 hP hK
  obtain ⟨rfl, hZ, hh⟩ := hP
  have hx := Bd.exec
  have hby := Bd.bytes
  have hml : c.maxLocals = 1 := hml0
  have hown : s.vm.findClass "com/example/facility_atlas/facilityatlas/RatingGradesApartPinLaw" = some m.cls := findClass_of_methodNamed Bd.named
  have hnm := (name_of_methodNamed Bd.named Bd.method).1
  have X0 : Stand p l e ({ frames := 0, cells := 0, slots := 0, locals := 0 } : Room) s m #[(.int (15 : Int32))] below meth c s₁ [] 0 0 := Stand.of_body Bd
  have e0 : s₁.heap = h0 := by rw [← hh, Bd.state]; rfl
  have N0 := Fr.nil n0
  have pre0 : ∀ t, Steps p.tables e below (s₁.setTop (mkF m 0 #[.val (.int (15 : Int32))] [])) t → Steps p.tables e below (s₁.setTop (entryFrame m #[(.int (15 : Int32))] 1)) t := fun t k => castTop (ef_1_15 m ) k
  obtain ⟨T2, X2, e2, st2⟩ := getS2 X0 hx hZ hown (host := "") (Or.inl (wd48 hw)) Via.refl e0 (pr1.ext OL0.2) (g := (mkF m 156 #[.val (.int (15 : Int32))] [])) rfl (hb hby d1_156)
  obtain ⟨fs, hr, hrun, hended, hW, hsame⟩ := X2.leave (v := some (.ref w1)) (fun h => by rw [Bd.returns] at h; cases h)
  refine ⟨_, _, pre0 _ ?_, hrun, hended, _, _, rfl, ?_, ⟨_, rfl⟩, hW, hsame.mono (by decide) (by decide)⟩
  · show Steps p.tables e below (s₁.setTop (mkF m 0 #[.val (.int (15 : Int32))] [])) _
    refine XS.iloadN X0.here hx rfl (hb hby d1_0) rfl ?_
    show Steps p.tables e below (s₁.setTop (mkF m 1 #[.val (.int (15 : Int32))] [(.int (15 : Int32))])) _
    refine XS.tswIn X0.here hx rfl (pc0 := 1) (pc' := 156) (o := 155) rfl (hb hby d1_1) rfl (by decide) (by decide) (by decide) (by decide) ?_
    show Steps p.tables e below (s₁.setTop (mkF m 156 #[.val (.int (15 : Int32))] [])) _
    refine st2 _ ?_
    show Steps p.tables e below (T2.setTop (mkF m 159 #[.val (.int (15 : Int32))] [(.ref w1)])) _
    jvm_step X2.here [X2.here.top, hx, (hb hby d1_159), X2.method', Bd.returns, Value.isRef, FieldType.isReference]
    first | (intro acts; rw [hr _ acts rfl rfl rfl]) | rw [hr _ _ rfl rfl rfl]
    exact Steps.refl _
  · show Q_rm1_15 Z w1 h0 n0 _ T2.heap _
    rw [e2]
    exact ⟨rfl, N0, rfl⟩
theorem d1_160 : decode method_2_code 160 = .ok (.getstatic 58, 3) := by decide +kernel
theorem d1_163 : decode method_2_code 163 = .ok (.areturn, 1) := by decide +kernel
theorem ef_1_16 (m : MethodId)  : entryFrame m #[(.int (16 : Int32))] 1 = mkF m 0 #[.val (.int (16 : Int32))] [] := by first | (simp [entryFrame, mkF, argsToLocals, Value.category]; done) | rfl
def Q_rm1_16 (Z : State) (w1 : Addr) (h0 : Heap) (n0 : Nat) (v : Option Value) (h : Heap) (L : List Loc) : Prop := v = some (.ref w1) ∧ Fr n0 L ∧ h = h0
set_option maxRecDepth 65536 in
set_option maxHeartbeats 40000000 in
theorem rm1_16 (l : Launch) (Z : State) (a0 : Array Value) (hw : ∀ d ∈ tables_1, d.before a0 Z = true) (ws : List Jvm.Cond) (w1 : Addr) (h0 : Heap) (n0 : Nat) (OL0 : Old Z n0 h0) (pr1 : Sta Z Z.heap "com/example/facility_atlas/facilityatlas/Rating" "CCC_PLUS" "Lcom/example/facility_atlas/facilityatlas/Rating;" (.ref w1)) :
    MetFree l (⟨"com/example/facility_atlas/facilityatlas/RatingGradesApartPinLaw", "grade", "(I)Lcom/example/facility_atlas/facilityatlas/Rating;"⟩ : MethodName) (head1 (Jvm.Cond.code (⟨"com/example/facility_atlas/facilityatlas/RatingGradesApartPinLaw", "grade", "(I)Lcom/example/facility_atlas/facilityatlas/Rating;"⟩ : MethodName) method_2_code 1 (some (.object "com/example/facility_atlas/facilityatlas/Rating")) :: ws) ({ frames := 0, cells := 0, slots := 0, locals := 0 } : Room)) (fun a U => a = #[(.int (16 : Int32))] ∧ Z.Warmed39 U.vm ∧ U.heap = h0) (fun _ _ _ _ _ => True) (fun _ U o U' => ∃ v L, o = .returned v ∧ Q_rm1_16 Z w1 h0 n0 v U'.heap L ∧ FrameEnd U o U' L ({ frames := 0, cells := 0, slots := 0, locals := 0 } : Room).cells ({ frames := 0, cells := 0, slots := 0, locals := 0 } : Room).slots) := by
  refine MetFree.of_bodySF (plainFor_of_name pn_0) hisR ?_
  intro p e s m args below meth c s₁ Bd hml0 hP hK
  obtain ⟨rfl, hZ, hh⟩ := hP
  have hx := Bd.exec
  have hby := Bd.bytes
  have hml : c.maxLocals = 1 := hml0
  have hown : s.vm.findClass "com/example/facility_atlas/facilityatlas/RatingGradesApartPinLaw" = some m.cls := findClass_of_methodNamed Bd.named
  have hnm := (name_of_methodNamed Bd.named Bd.method).1
  have X0 : Stand p l e ({ frames := 0, cells := 0, slots := 0, locals := 0 } : Room) s m #[(.int (16 : Int32))] below meth c s₁ [] 0 0 := Stand.of_body Bd
  have e0 : s₁.heap = h0 := by rw [← hh, Bd.state]; rfl
  have N0 := Fr.nil n0
  have pre0 : ∀ t, Steps p.tables e below (s₁.setTop (mkF m 0 #[.val (.int (16 : Int32))] [])) t → Steps p.tables e below (s₁.setTop (entryFrame m #[(.int (16 : Int32))] 1)) t := fun t k => castTop (ef_1_16 m ) k
  obtain ⟨T2, X2, e2, st2⟩ := getS2 X0 hx hZ hown (host := "") (Or.inl (wd62 hw)) Via.refl e0 (pr1.ext OL0.2) (g := (mkF m 160 #[.val (.int (16 : Int32))] [])) rfl (hb hby d1_160)
  obtain ⟨fs, hr, hrun, hended, hW, hsame⟩ := X2.leave (v := some (.ref w1)) (fun h => by rw [Bd.returns] at h; cases h)
  refine ⟨_, _, pre0 _ ?_, hrun, hended, _, _, rfl, ?_, ⟨_, rfl⟩, hW, hsame.mono (by decide) (by decide)⟩
  · show Steps p.tables e below (s₁.setTop (mkF m 0 #[.val (.int (16 : Int32))] [])) _
    refine XS.iloadN X0.here hx rfl (hb hby d1_0) rfl ?_
    show Steps p.tables e below (s₁.setTop (mkF m 1 #[.val (.int (16 : Int32))] [(.int (16 : Int32))])) _
    refine XS.tswIn X0.here hx rfl (pc0 := 1) (pc' := 160) (o := 159) rfl (hb hby d1_1) rfl (by decide) (by decide) (by decide) (by decide) ?_
    show Steps p.tables e below (s₁.setTop (mkF m 160 #[.val (.int (16 : Int32))] [])) _
    refine st2 _ ?_
    show Steps p.tables e below (T2.setTop (mkF m 163 #[.val (.int (16 : Int32))] [(.ref w1)])) _
    jvm_step X2.here [X2.here.top, hx, (hb hby d1_163), X2.method', Bd.returns, Value.isRef, FieldType.isReference]
    first | (intro acts; rw [hr _ acts rfl rfl rfl]) | rw [hr _ _ rfl rfl rfl]
    exact Steps.refl _
  · show Q_rm1_16 Z w1 h0 n0 _ T2.heap _
    rw [e2]
    exact ⟨rfl, N0, rfl⟩
theorem d1_164 : decode method_2_code 164 = .ok (.getstatic 61, 3) := by decide +kernel
theorem d1_167 : decode method_2_code 167 = .ok (.areturn, 1) := by decide +kernel
theorem ef_1_17 (m : MethodId)  : entryFrame m #[(.int (17 : Int32))] 1 = mkF m 0 #[.val (.int (17 : Int32))] [] := by first | (simp [entryFrame, mkF, argsToLocals, Value.category]; done) | rfl
def Q_rm1_17 (Z : State) (w1 : Addr) (h0 : Heap) (n0 : Nat) (v : Option Value) (h : Heap) (L : List Loc) : Prop := v = some (.ref w1) ∧ Fr n0 L ∧ h = h0
set_option maxRecDepth 65536 in
set_option maxHeartbeats 40000000 in
theorem rm1_17 (l : Launch) (Z : State) (a0 : Array Value) (hw : ∀ d ∈ tables_1, d.before a0 Z = true) (ws : List Jvm.Cond) (w1 : Addr) (h0 : Heap) (n0 : Nat) (OL0 : Old Z n0 h0) (pr1 : Sta Z Z.heap "com/example/facility_atlas/facilityatlas/Rating" "CCC" "Lcom/example/facility_atlas/facilityatlas/Rating;" (.ref w1)) :
    MetFree l (⟨"com/example/facility_atlas/facilityatlas/RatingGradesApartPinLaw", "grade", "(I)Lcom/example/facility_atlas/facilityatlas/Rating;"⟩ : MethodName) (head1 (Jvm.Cond.code (⟨"com/example/facility_atlas/facilityatlas/RatingGradesApartPinLaw", "grade", "(I)Lcom/example/facility_atlas/facilityatlas/Rating;"⟩ : MethodName) method_2_code 1 (some (.object "com/example/facility_atlas/facilityatlas/Rating")) :: ws) ({ frames := 0, cells := 0, slots := 0, locals := 0 } : Room)) (fun a U => a = #[(.int (17 : Int32))] ∧ Z.Warmed39 U.vm ∧ U.heap = h0) (fun _ _ _ _ _ => True) (fun _ U o U' => ∃ v L, o = .returned v ∧ Q_rm1_17 Z w1 h0 n0 v U'.heap L ∧ FrameEnd U o U' L ({ frames := 0, cells := 0, slots := 0, locals := 0 } : Room).cells ({ frames := 0, cells := 0, slots := 0, locals := 0 } : Room).slots) := by
  refine MetFree.of_bodySF (plainFor_of_name pn_0) hisR ?_
  intro p e s m args below meth c s₁ Bd hml0 hP hK
  obtain ⟨rfl, hZ, hh⟩ := hP
  have hx := Bd.exec
  have hby := Bd.bytes
  have hml : c.maxLocals = 1 := hml0
  have hown : s.vm.findClass "com/example/facility_atlas/facilityatlas/RatingGradesApartPinLaw" = some m.cls := findClass_of_methodNamed Bd.named
  have hnm := (name_of_methodNamed Bd.named Bd.method).1
  have X0 : Stand p l e ({ frames := 0, cells := 0, slots := 0, locals := 0 } : Room) s m #[(.int (17 : Int32))] below meth c s₁ [] 0 0 := Stand.of_body Bd
  have e0 : s₁.heap = h0 := by rw [← hh, Bd.state]; rfl
  have N0 := Fr.nil n0
  have pre0 : ∀ t, Steps p.tables e below (s₁.setTop (mkF m 0 #[.val (.int (17 : Int32))] [])) t → Steps p.tables e below (s₁.setTop (entryFrame m #[(.int (17 : Int32))] 1)) t := fun t k => castTop (ef_1_17 m ) k
  obtain ⟨T2, X2, e2, st2⟩ := getS2 X0 hx hZ hown (host := "") (Or.inl (wd64 hw)) Via.refl e0 (pr1.ext OL0.2) (g := (mkF m 164 #[.val (.int (17 : Int32))] [])) rfl (hb hby d1_164)
  obtain ⟨fs, hr, hrun, hended, hW, hsame⟩ := X2.leave (v := some (.ref w1)) (fun h => by rw [Bd.returns] at h; cases h)
  refine ⟨_, _, pre0 _ ?_, hrun, hended, _, _, rfl, ?_, ⟨_, rfl⟩, hW, hsame.mono (by decide) (by decide)⟩
  · show Steps p.tables e below (s₁.setTop (mkF m 0 #[.val (.int (17 : Int32))] [])) _
    refine XS.iloadN X0.here hx rfl (hb hby d1_0) rfl ?_
    show Steps p.tables e below (s₁.setTop (mkF m 1 #[.val (.int (17 : Int32))] [(.int (17 : Int32))])) _
    refine XS.tswIn X0.here hx rfl (pc0 := 1) (pc' := 164) (o := 163) rfl (hb hby d1_1) rfl (by decide) (by decide) (by decide) (by decide) ?_
    show Steps p.tables e below (s₁.setTop (mkF m 164 #[.val (.int (17 : Int32))] [])) _
    refine st2 _ ?_
    show Steps p.tables e below (T2.setTop (mkF m 167 #[.val (.int (17 : Int32))] [(.ref w1)])) _
    jvm_step X2.here [X2.here.top, hx, (hb hby d1_167), X2.method', Bd.returns, Value.isRef, FieldType.isReference]
    first | (intro acts; rw [hr _ acts rfl rfl rfl]) | rw [hr _ _ rfl rfl rfl]
    exact Steps.refl _
  · show Q_rm1_17 Z w1 h0 n0 _ T2.heap _
    rw [e2]
    exact ⟨rfl, N0, rfl⟩
theorem d1_168 : decode method_2_code 168 = .ok (.getstatic 64, 3) := by decide +kernel
theorem d1_171 : decode method_2_code 171 = .ok (.areturn, 1) := by decide +kernel
theorem ef_1_18 (m : MethodId)  : entryFrame m #[(.int (18 : Int32))] 1 = mkF m 0 #[.val (.int (18 : Int32))] [] := by first | (simp [entryFrame, mkF, argsToLocals, Value.category]; done) | rfl
def Q_rm1_18 (Z : State) (w1 : Addr) (h0 : Heap) (n0 : Nat) (v : Option Value) (h : Heap) (L : List Loc) : Prop := v = some (.ref w1) ∧ Fr n0 L ∧ h = h0
set_option maxRecDepth 65536 in
set_option maxHeartbeats 40000000 in
theorem rm1_18 (l : Launch) (Z : State) (a0 : Array Value) (hw : ∀ d ∈ tables_1, d.before a0 Z = true) (ws : List Jvm.Cond) (w1 : Addr) (h0 : Heap) (n0 : Nat) (OL0 : Old Z n0 h0) (pr1 : Sta Z Z.heap "com/example/facility_atlas/facilityatlas/Rating" "CCC_MINUS" "Lcom/example/facility_atlas/facilityatlas/Rating;" (.ref w1)) :
    MetFree l (⟨"com/example/facility_atlas/facilityatlas/RatingGradesApartPinLaw", "grade", "(I)Lcom/example/facility_atlas/facilityatlas/Rating;"⟩ : MethodName) (head1 (Jvm.Cond.code (⟨"com/example/facility_atlas/facilityatlas/RatingGradesApartPinLaw", "grade", "(I)Lcom/example/facility_atlas/facilityatlas/Rating;"⟩ : MethodName) method_2_code 1 (some (.object "com/example/facility_atlas/facilityatlas/Rating")) :: ws) ({ frames := 0, cells := 0, slots := 0, locals := 0 } : Room)) (fun a U => a = #[(.int (18 : Int32))] ∧ Z.Warmed39 U.vm ∧ U.heap = h0) (fun _ _ _ _ _ => True) (fun _ U o U' => ∃ v L, o = .returned v ∧ Q_rm1_18 Z w1 h0 n0 v U'.heap L ∧ FrameEnd U o U' L ({ frames := 0, cells := 0, slots := 0, locals := 0 } : Room).cells ({ frames := 0, cells := 0, slots := 0, locals := 0 } : Room).slots) := by
  refine MetFree.of_bodySF (plainFor_of_name pn_0) hisR ?_
  intro p e s m args below meth c s₁ Bd hml0 hP hK
  obtain ⟨rfl, hZ, hh⟩ := hP
  have hx := Bd.exec
  have hby := Bd.bytes
  have hml : c.maxLocals = 1 := hml0
  have hown : s.vm.findClass "com/example/facility_atlas/facilityatlas/RatingGradesApartPinLaw" = some m.cls := findClass_of_methodNamed Bd.named
  have hnm := (name_of_methodNamed Bd.named Bd.method).1
  have X0 : Stand p l e ({ frames := 0, cells := 0, slots := 0, locals := 0 } : Room) s m #[(.int (18 : Int32))] below meth c s₁ [] 0 0 := Stand.of_body Bd
  have e0 : s₁.heap = h0 := by rw [← hh, Bd.state]; rfl
  have N0 := Fr.nil n0
  have pre0 : ∀ t, Steps p.tables e below (s₁.setTop (mkF m 0 #[.val (.int (18 : Int32))] [])) t → Steps p.tables e below (s₁.setTop (entryFrame m #[(.int (18 : Int32))] 1)) t := fun t k => castTop (ef_1_18 m ) k
  obtain ⟨T2, X2, e2, st2⟩ := getS2 X0 hx hZ hown (host := "") (Or.inl (wd52 hw)) Via.refl e0 (pr1.ext OL0.2) (g := (mkF m 168 #[.val (.int (18 : Int32))] [])) rfl (hb hby d1_168)
  obtain ⟨fs, hr, hrun, hended, hW, hsame⟩ := X2.leave (v := some (.ref w1)) (fun h => by rw [Bd.returns] at h; cases h)
  refine ⟨_, _, pre0 _ ?_, hrun, hended, _, _, rfl, ?_, ⟨_, rfl⟩, hW, hsame.mono (by decide) (by decide)⟩
  · show Steps p.tables e below (s₁.setTop (mkF m 0 #[.val (.int (18 : Int32))] [])) _
    refine XS.iloadN X0.here hx rfl (hb hby d1_0) rfl ?_
    show Steps p.tables e below (s₁.setTop (mkF m 1 #[.val (.int (18 : Int32))] [(.int (18 : Int32))])) _
    refine XS.tswIn X0.here hx rfl (pc0 := 1) (pc' := 168) (o := 167) rfl (hb hby d1_1) rfl (by decide) (by decide) (by decide) (by decide) ?_
    show Steps p.tables e below (s₁.setTop (mkF m 168 #[.val (.int (18 : Int32))] [])) _
    refine st2 _ ?_
    show Steps p.tables e below (T2.setTop (mkF m 171 #[.val (.int (18 : Int32))] [(.ref w1)])) _
    jvm_step X2.here [X2.here.top, hx, (hb hby d1_171), X2.method', Bd.returns, Value.isRef, FieldType.isReference]
    first | (intro acts; rw [hr _ acts rfl rfl rfl]) | rw [hr _ _ rfl rfl rfl]
    exact Steps.refl _
  · show Q_rm1_18 Z w1 h0 n0 _ T2.heap _
    rw [e2]
    exact ⟨rfl, N0, rfl⟩
theorem d1_172 : decode method_2_code 172 = .ok (.getstatic 67, 3) := by decide +kernel
theorem d1_175 : decode method_2_code 175 = .ok (.areturn, 1) := by decide +kernel
theorem ef_1_19 (m : MethodId)  : entryFrame m #[(.int (19 : Int32))] 1 = mkF m 0 #[.val (.int (19 : Int32))] [] := by first | (simp [entryFrame, mkF, argsToLocals, Value.category]; done) | rfl
def Q_rm1_19 (Z : State) (w1 : Addr) (h0 : Heap) (n0 : Nat) (v : Option Value) (h : Heap) (L : List Loc) : Prop := v = some (.ref w1) ∧ Fr n0 L ∧ h = h0
set_option maxRecDepth 65536 in
set_option maxHeartbeats 40000000 in
theorem rm1_19 (l : Launch) (Z : State) (a0 : Array Value) (hw : ∀ d ∈ tables_1, d.before a0 Z = true) (ws : List Jvm.Cond) (w1 : Addr) (h0 : Heap) (n0 : Nat) (OL0 : Old Z n0 h0) (pr1 : Sta Z Z.heap "com/example/facility_atlas/facilityatlas/Rating" "CC" "Lcom/example/facility_atlas/facilityatlas/Rating;" (.ref w1)) :
    MetFree l (⟨"com/example/facility_atlas/facilityatlas/RatingGradesApartPinLaw", "grade", "(I)Lcom/example/facility_atlas/facilityatlas/Rating;"⟩ : MethodName) (head1 (Jvm.Cond.code (⟨"com/example/facility_atlas/facilityatlas/RatingGradesApartPinLaw", "grade", "(I)Lcom/example/facility_atlas/facilityatlas/Rating;"⟩ : MethodName) method_2_code 1 (some (.object "com/example/facility_atlas/facilityatlas/Rating")) :: ws) ({ frames := 0, cells := 0, slots := 0, locals := 0 } : Room)) (fun a U => a = #[(.int (19 : Int32))] ∧ Z.Warmed39 U.vm ∧ U.heap = h0) (fun _ _ _ _ _ => True) (fun _ U o U' => ∃ v L, o = .returned v ∧ Q_rm1_19 Z w1 h0 n0 v U'.heap L ∧ FrameEnd U o U' L ({ frames := 0, cells := 0, slots := 0, locals := 0 } : Room).cells ({ frames := 0, cells := 0, slots := 0, locals := 0 } : Room).slots) := by
  refine MetFree.of_bodySF (plainFor_of_name pn_0) hisR ?_
  intro p e s m args below meth c s₁ Bd hml0 hP hK
  obtain ⟨rfl, hZ, hh⟩ := hP
  have hx := Bd.exec
  have hby := Bd.bytes
  have hml : c.maxLocals = 1 := hml0
  have hown : s.vm.findClass "com/example/facility_atlas/facilityatlas/RatingGradesApartPinLaw" = some m.cls := findClass_of_methodNamed Bd.named
  have hnm := (name_of_methodNamed Bd.named Bd.method).1
  have X0 : Stand p l e ({ frames := 0, cells := 0, slots := 0, locals := 0 } : Room) s m #[(.int (19 : Int32))] below meth c s₁ [] 0 0 := Stand.of_body Bd
  have e0 : s₁.heap = h0 := by rw [← hh, Bd.state]; rfl
  have N0 := Fr.nil n0
  have pre0 : ∀ t, Steps p.tables e below (s₁.setTop (mkF m 0 #[.val (.int (19 : Int32))] [])) t → Steps p.tables e below (s₁.setTop (entryFrame m #[(.int (19 : Int32))] 1)) t := fun t k => castTop (ef_1_19 m ) k
  obtain ⟨T2, X2, e2, st2⟩ := getS2 X0 hx hZ hown (host := "") (Or.inl (wd50 hw)) Via.refl e0 (pr1.ext OL0.2) (g := (mkF m 172 #[.val (.int (19 : Int32))] [])) rfl (hb hby d1_172)
  obtain ⟨fs, hr, hrun, hended, hW, hsame⟩ := X2.leave (v := some (.ref w1)) (fun h => by rw [Bd.returns] at h; cases h)
  refine ⟨_, _, pre0 _ ?_, hrun, hended, _, _, rfl, ?_, ⟨_, rfl⟩, hW, hsame.mono (by decide) (by decide)⟩
  · show Steps p.tables e below (s₁.setTop (mkF m 0 #[.val (.int (19 : Int32))] [])) _
    refine XS.iloadN X0.here hx rfl (hb hby d1_0) rfl ?_
    show Steps p.tables e below (s₁.setTop (mkF m 1 #[.val (.int (19 : Int32))] [(.int (19 : Int32))])) _
    refine XS.tswIn X0.here hx rfl (pc0 := 1) (pc' := 172) (o := 171) rfl (hb hby d1_1) rfl (by decide) (by decide) (by decide) (by decide) ?_
    show Steps p.tables e below (s₁.setTop (mkF m 172 #[.val (.int (19 : Int32))] [])) _
    refine st2 _ ?_
    show Steps p.tables e below (T2.setTop (mkF m 175 #[.val (.int (19 : Int32))] [(.ref w1)])) _
    jvm_step X2.here [X2.here.top, hx, (hb hby d1_175), X2.method', Bd.returns, Value.isRef, FieldType.isReference]
    first | (intro acts; rw [hr _ acts rfl rfl rfl]) | rw [hr _ _ rfl rfl rfl]
    exact Steps.refl _
  · show Q_rm1_19 Z w1 h0 n0 _ T2.heap _
    rw [e2]
    exact ⟨rfl, N0, rfl⟩
theorem d1_176 : decode method_2_code 176 = .ok (.getstatic 70, 3) := by decide +kernel
theorem d1_179 : decode method_2_code 179 = .ok (.areturn, 1) := by decide +kernel
theorem ef_1_20 (m : MethodId)  : entryFrame m #[(.int (20 : Int32))] 1 = mkF m 0 #[.val (.int (20 : Int32))] [] := by first | (simp [entryFrame, mkF, argsToLocals, Value.category]; done) | rfl
def Q_rm1_20 (Z : State) (w1 : Addr) (h0 : Heap) (n0 : Nat) (v : Option Value) (h : Heap) (L : List Loc) : Prop := v = some (.ref w1) ∧ Fr n0 L ∧ h = h0
set_option maxRecDepth 65536 in
set_option maxHeartbeats 40000000 in
theorem rm1_20 (l : Launch) (Z : State) (a0 : Array Value) (hw : ∀ d ∈ tables_1, d.before a0 Z = true) (ws : List Jvm.Cond) (w1 : Addr) (h0 : Heap) (n0 : Nat) (OL0 : Old Z n0 h0) (pr1 : Sta Z Z.heap "com/example/facility_atlas/facilityatlas/Rating" "C" "Lcom/example/facility_atlas/facilityatlas/Rating;" (.ref w1)) :
    MetFree l (⟨"com/example/facility_atlas/facilityatlas/RatingGradesApartPinLaw", "grade", "(I)Lcom/example/facility_atlas/facilityatlas/Rating;"⟩ : MethodName) (head1 (Jvm.Cond.code (⟨"com/example/facility_atlas/facilityatlas/RatingGradesApartPinLaw", "grade", "(I)Lcom/example/facility_atlas/facilityatlas/Rating;"⟩ : MethodName) method_2_code 1 (some (.object "com/example/facility_atlas/facilityatlas/Rating")) :: ws) ({ frames := 0, cells := 0, slots := 0, locals := 0 } : Room)) (fun a U => a = #[(.int (20 : Int32))] ∧ Z.Warmed39 U.vm ∧ U.heap = h0) (fun _ _ _ _ _ => True) (fun _ U o U' => ∃ v L, o = .returned v ∧ Q_rm1_20 Z w1 h0 n0 v U'.heap L ∧ FrameEnd U o U' L ({ frames := 0, cells := 0, slots := 0, locals := 0 } : Room).cells ({ frames := 0, cells := 0, slots := 0, locals := 0 } : Room).slots) := by
  refine MetFree.of_bodySF (plainFor_of_name pn_0) hisR ?_
  intro p e s m args below meth c s₁ Bd hml0 hP hK
  obtain ⟨rfl, hZ, hh⟩ := hP
  have hx := Bd.exec
  have hby := Bd.bytes
  have hml : c.maxLocals = 1 := hml0
  have hown : s.vm.findClass "com/example/facility_atlas/facilityatlas/RatingGradesApartPinLaw" = some m.cls := findClass_of_methodNamed Bd.named
  have hnm := (name_of_methodNamed Bd.named Bd.method).1
  have X0 : Stand p l e ({ frames := 0, cells := 0, slots := 0, locals := 0 } : Room) s m #[(.int (20 : Int32))] below meth c s₁ [] 0 0 := Stand.of_body Bd
  have e0 : s₁.heap = h0 := by rw [← hh, Bd.state]; rfl
  have N0 := Fr.nil n0
  have pre0 : ∀ t, Steps p.tables e below (s₁.setTop (mkF m 0 #[.val (.int (20 : Int32))] [])) t → Steps p.tables e below (s₁.setTop (entryFrame m #[(.int (20 : Int32))] 1)) t := fun t k => castTop (ef_1_20 m ) k
  obtain ⟨T2, X2, e2, st2⟩ := getS2 X0 hx hZ hown (host := "") (Or.inl (wd56 hw)) Via.refl e0 (pr1.ext OL0.2) (g := (mkF m 176 #[.val (.int (20 : Int32))] [])) rfl (hb hby d1_176)
  obtain ⟨fs, hr, hrun, hended, hW, hsame⟩ := X2.leave (v := some (.ref w1)) (fun h => by rw [Bd.returns] at h; cases h)
  refine ⟨_, _, pre0 _ ?_, hrun, hended, _, _, rfl, ?_, ⟨_, rfl⟩, hW, hsame.mono (by decide) (by decide)⟩
  · show Steps p.tables e below (s₁.setTop (mkF m 0 #[.val (.int (20 : Int32))] [])) _
    refine XS.iloadN X0.here hx rfl (hb hby d1_0) rfl ?_
    show Steps p.tables e below (s₁.setTop (mkF m 1 #[.val (.int (20 : Int32))] [(.int (20 : Int32))])) _
    refine XS.tswOut X0.here hx rfl (pc0 := 1) (pc' := 176) rfl (hb hby d1_1) rfl (by decide) (by decide) (by decide) ?_
    show Steps p.tables e below (s₁.setTop (mkF m 176 #[.val (.int (20 : Int32))] [])) _
    refine st2 _ ?_
    show Steps p.tables e below (T2.setTop (mkF m 179 #[.val (.int (20 : Int32))] [(.ref w1)])) _
    jvm_step X2.here [X2.here.top, hx, (hb hby d1_179), X2.method', Bd.returns, Value.isRef, FieldType.isReference]
    first | (intro acts; rw [hr _ acts rfl rfl rfl]) | rw [hr _ _ rfl rfl rfl]
    exact Steps.refl _
  · show Q_rm1_20 Z w1 h0 n0 _ T2.heap _
    rw [e2]
    exact ⟨rfl, N0, rfl⟩
def SelG (Z : State) (r : Int32) (w : Addr) : Prop := (r = (0 : Int32) ∧ Sta Z Z.heap "com/example/facility_atlas/facilityatlas/Rating" "AAA" "Lcom/example/facility_atlas/facilityatlas/Rating;" (.ref w)) ∨ (r = (1 : Int32) ∧ Sta Z Z.heap "com/example/facility_atlas/facilityatlas/Rating" "AA_PLUS" "Lcom/example/facility_atlas/facilityatlas/Rating;" (.ref w)) ∨ (r = (2 : Int32) ∧ Sta Z Z.heap "com/example/facility_atlas/facilityatlas/Rating" "AA" "Lcom/example/facility_atlas/facilityatlas/Rating;" (.ref w)) ∨ (r = (3 : Int32) ∧ Sta Z Z.heap "com/example/facility_atlas/facilityatlas/Rating" "AA_MINUS" "Lcom/example/facility_atlas/facilityatlas/Rating;" (.ref w)) ∨ (r = (4 : Int32) ∧ Sta Z Z.heap "com/example/facility_atlas/facilityatlas/Rating" "A_PLUS" "Lcom/example/facility_atlas/facilityatlas/Rating;" (.ref w)) ∨ (r = (5 : Int32) ∧ Sta Z Z.heap "com/example/facility_atlas/facilityatlas/Rating" "A" "Lcom/example/facility_atlas/facilityatlas/Rating;" (.ref w)) ∨ (r = (6 : Int32) ∧ Sta Z Z.heap "com/example/facility_atlas/facilityatlas/Rating" "A_MINUS" "Lcom/example/facility_atlas/facilityatlas/Rating;" (.ref w)) ∨ (r = (7 : Int32) ∧ Sta Z Z.heap "com/example/facility_atlas/facilityatlas/Rating" "BBB_PLUS" "Lcom/example/facility_atlas/facilityatlas/Rating;" (.ref w)) ∨ (r = (8 : Int32) ∧ Sta Z Z.heap "com/example/facility_atlas/facilityatlas/Rating" "BBB" "Lcom/example/facility_atlas/facilityatlas/Rating;" (.ref w)) ∨ (r = (9 : Int32) ∧ Sta Z Z.heap "com/example/facility_atlas/facilityatlas/Rating" "BBB_MINUS" "Lcom/example/facility_atlas/facilityatlas/Rating;" (.ref w)) ∨ (r = (10 : Int32) ∧ Sta Z Z.heap "com/example/facility_atlas/facilityatlas/Rating" "BB_PLUS" "Lcom/example/facility_atlas/facilityatlas/Rating;" (.ref w)) ∨ (r = (11 : Int32) ∧ Sta Z Z.heap "com/example/facility_atlas/facilityatlas/Rating" "BB" "Lcom/example/facility_atlas/facilityatlas/Rating;" (.ref w)) ∨ (r = (12 : Int32) ∧ Sta Z Z.heap "com/example/facility_atlas/facilityatlas/Rating" "BB_MINUS" "Lcom/example/facility_atlas/facilityatlas/Rating;" (.ref w)) ∨ (r = (13 : Int32) ∧ Sta Z Z.heap "com/example/facility_atlas/facilityatlas/Rating" "B_PLUS" "Lcom/example/facility_atlas/facilityatlas/Rating;" (.ref w)) ∨ (r = (14 : Int32) ∧ Sta Z Z.heap "com/example/facility_atlas/facilityatlas/Rating" "B" "Lcom/example/facility_atlas/facilityatlas/Rating;" (.ref w)) ∨ (r = (15 : Int32) ∧ Sta Z Z.heap "com/example/facility_atlas/facilityatlas/Rating" "B_MINUS" "Lcom/example/facility_atlas/facilityatlas/Rating;" (.ref w)) ∨ (r = (16 : Int32) ∧ Sta Z Z.heap "com/example/facility_atlas/facilityatlas/Rating" "CCC_PLUS" "Lcom/example/facility_atlas/facilityatlas/Rating;" (.ref w)) ∨ (r = (17 : Int32) ∧ Sta Z Z.heap "com/example/facility_atlas/facilityatlas/Rating" "CCC" "Lcom/example/facility_atlas/facilityatlas/Rating;" (.ref w)) ∨ (r = (18 : Int32) ∧ Sta Z Z.heap "com/example/facility_atlas/facilityatlas/Rating" "CCC_MINUS" "Lcom/example/facility_atlas/facilityatlas/Rating;" (.ref w)) ∨ (r = (19 : Int32) ∧ Sta Z Z.heap "com/example/facility_atlas/facilityatlas/Rating" "CC" "Lcom/example/facility_atlas/facilityatlas/Rating;" (.ref w)) ∨ (r = (20 : Int32) ∧ Sta Z Z.heap "com/example/facility_atlas/facilityatlas/Rating" "C" "Lcom/example/facility_atlas/facilityatlas/Rating;" (.ref w))
def Q_gr (Z : State) (r : Int32) (w : Addr) (h0 : Heap) (n0 : Nat) (v : Option Value) (h : Heap) (L : List Loc) : Prop := v = some (.ref w) ∧ Fr n0 L ∧ h = h0
theorem gr_any (l : Launch) (Z : State) (a0 : Array Value) (hw : ∀ d ∈ tables_1, d.before a0 Z = true) (ws : List Jvm.Cond) (r : Int32) (w : Addr) (h0 : Heap) (n0 : Nat) (OL0 : Old Z n0 h0) (hs : SelG Z r w) :
    MetFree l (⟨"com/example/facility_atlas/facilityatlas/RatingGradesApartPinLaw", "grade", "(I)Lcom/example/facility_atlas/facilityatlas/Rating;"⟩ : MethodName) (head1 (Jvm.Cond.code (⟨"com/example/facility_atlas/facilityatlas/RatingGradesApartPinLaw", "grade", "(I)Lcom/example/facility_atlas/facilityatlas/Rating;"⟩ : MethodName) method_2_code 1 (some (.object "com/example/facility_atlas/facilityatlas/Rating")) :: ws) ({ frames := 0, cells := 0, slots := 0, locals := 0 } : Room)) (fun a U => a = #[(.int r)] ∧ Z.Warmed39 U.vm ∧ U.heap = h0) (fun _ _ _ _ _ => True) (fun _ U o U' => ∃ v L, o = .returned v ∧ Q_gr Z r w h0 n0 v U'.heap L ∧ FrameEnd U o U' L ({ frames := 0, cells := 0, slots := 0, locals := 0 } : Room).cells ({ frames := 0, cells := 0, slots := 0, locals := 0 } : Room).slots) := by
  rcases hs with ⟨rfl, hs⟩ | ⟨rfl, hs⟩ | ⟨rfl, hs⟩ | ⟨rfl, hs⟩ | ⟨rfl, hs⟩ | ⟨rfl, hs⟩ | ⟨rfl, hs⟩ | ⟨rfl, hs⟩ | ⟨rfl, hs⟩ | ⟨rfl, hs⟩ | ⟨rfl, hs⟩ | ⟨rfl, hs⟩ | ⟨rfl, hs⟩ | ⟨rfl, hs⟩ | ⟨rfl, hs⟩ | ⟨rfl, hs⟩ | ⟨rfl, hs⟩ | ⟨rfl, hs⟩ | ⟨rfl, hs⟩ | ⟨rfl, hs⟩ | ⟨rfl, hs⟩
  · exact rm1_0 l Z a0 hw ws w h0 n0 OL0 hs
  · exact rm1_1 l Z a0 hw ws w h0 n0 OL0 hs
  · exact rm1_2 l Z a0 hw ws w h0 n0 OL0 hs
  · exact rm1_3 l Z a0 hw ws w h0 n0 OL0 hs
  · exact rm1_4 l Z a0 hw ws w h0 n0 OL0 hs
  · exact rm1_5 l Z a0 hw ws w h0 n0 OL0 hs
  · exact rm1_6 l Z a0 hw ws w h0 n0 OL0 hs
  · exact rm1_7 l Z a0 hw ws w h0 n0 OL0 hs
  · exact rm1_8 l Z a0 hw ws w h0 n0 OL0 hs
  · exact rm1_9 l Z a0 hw ws w h0 n0 OL0 hs
  · exact rm1_10 l Z a0 hw ws w h0 n0 OL0 hs
  · exact rm1_11 l Z a0 hw ws w h0 n0 OL0 hs
  · exact rm1_12 l Z a0 hw ws w h0 n0 OL0 hs
  · exact rm1_13 l Z a0 hw ws w h0 n0 OL0 hs
  · exact rm1_14 l Z a0 hw ws w h0 n0 OL0 hs
  · exact rm1_15 l Z a0 hw ws w h0 n0 OL0 hs
  · exact rm1_16 l Z a0 hw ws w h0 n0 OL0 hs
  · exact rm1_17 l Z a0 hw ws w h0 n0 OL0 hs
  · exact rm1_18 l Z a0 hw ws w h0 n0 OL0 hs
  · exact rm1_19 l Z a0 hw ws w h0 n0 OL0 hs
  · exact rm1_20 l Z a0 hw ws w h0 n0 OL0 hs
theorem pd_0 : parseMethodDescriptor "(I)Lcom/example/facility_atlas/facilityatlas/Rating;" = some ⟨[.int], some (.object "com/example/facility_atlas/facilityatlas/Rating")⟩ := by decide +kernel
theorem d2_0 : decode prog_47_method_6_code 0 = .ok (.aload_n 0, 1) := by decide +kernel
theorem d2_1 : decode prog_47_method_6_code 1 = .ok (.invokevirtual 110, 3) := by decide +kernel
theorem d3_0 : decode jdk_37_method_2_code 0 = .ok (.aload_n 0, 1) := by decide +kernel
theorem d3_1 : decode jdk_37_method_2_code 1 = .ok (.getfield 7, 3) := by decide +kernel
theorem d3_4 : decode jdk_37_method_2_code 4 = .ok (.ireturn, 1) := by decide +kernel
theorem ef_3_21 (m : MethodId) (x0 : Addr) : entryFrame m #[(.ref x0)] 1 = mkF m 0 #[.val (.ref x0)] [] := by first | (simp [entryFrame, mkF, argsToLocals, Value.category]; done) | rfl
theorem pn_1 : plainName "java/lang/Enum" = true := by first | (simp [plainName, overriddenIn]; done) | decide +kernel
def Q_rm3_0 (Z : State) (w1 : Addr) (p2 : Int32) (h0 : Heap) (n0 : Nat) (v : Option Value) (h : Heap) (L : List Loc) : Prop := v = some (.int p2) ∧ Fr n0 L ∧ h = h0
set_option maxRecDepth 65536 in
set_option maxHeartbeats 40000000 in
theorem rm3_0 (l : Launch) (Z : State) (a0 : Array Value) (hw : ∀ d ∈ tables_1, d.before a0 Z = true) (ws : List Jvm.Cond) (w1 : Addr) (p2 : Int32) (h0 : Heap) (n0 : Nat) (OL0 : Old Z n0 h0) (pr1 : Fld Z Z.heap w1 "java/lang/Enum" "ordinal" "I" (.int p2)) :
    MetFree l (⟨"java/lang/Enum", "ordinal", "()I"⟩ : MethodName) (head1 (Jvm.Cond.code (⟨"java/lang/Enum", "ordinal", "()I"⟩ : MethodName) jdk_37_method_2_code 1 (some .int) :: ws) ({ frames := 0, cells := 0, slots := 0, locals := 0 } : Room)) (fun a U => a = #[(.ref w1)] ∧ Z.Warmed39 U.vm ∧ U.heap = h0) (fun _ _ _ _ _ => True) (fun _ U o U' => ∃ v L, o = .returned v ∧ Q_rm3_0 Z w1 p2 h0 n0 v U'.heap L ∧ FrameEnd U o U' L ({ frames := 0, cells := 0, slots := 0, locals := 0 } : Room).cells ({ frames := 0, cells := 0, slots := 0, locals := 0 } : Room).slots) := by
  refine MetFree.of_bodySF (plainFor_of_name pn_1) hisR ?_
  intro p e s m args below meth c s₁ Bd hml0 hP hK
  obtain ⟨rfl, hZ, hh⟩ := hP
  have hx := Bd.exec
  have hby := Bd.bytes
  have hml : c.maxLocals = 1 := hml0
  have hown : s.vm.findClass "java/lang/Enum" = some m.cls := findClass_of_methodNamed Bd.named
  have hnm := (name_of_methodNamed Bd.named Bd.method).1
  have X0 : Stand p l e ({ frames := 0, cells := 0, slots := 0, locals := 0 } : Room) s m #[(.ref w1)] below meth c s₁ [] 0 0 := Stand.of_body Bd
  have e0 : s₁.heap = h0 := by rw [← hh, Bd.state]; rfl
  have N0 := Fr.nil n0
  have pre0 : ∀ t, Steps p.tables e below (s₁.setTop (mkF m 0 #[.val (.ref w1)] [])) t → Steps p.tables e below (s₁.setTop (entryFrame m #[(.ref w1)] 1)) t := fun t k => castTop (ef_3_21 m w1) k
  obtain ⟨T3, X3, e3, st3⟩ := getF X0 hx hZ hown (host := "") (Or.inl (wd22 hw)) Via.refl e0 (pr1.ext OL0.2) (g := (mkF m 1 #[.val (.ref w1)] [(.ref w1)])) rfl rfl (hb hby d3_1)
  obtain ⟨fs, hr, hrun, hended, hW, hsame⟩ := X3.leave (v := some (.int p2)) (fun h => by rw [Bd.returns] at h; cases h)
  refine ⟨_, _, pre0 _ ?_, hrun, hended, _, _, rfl, ?_, ⟨_, rfl⟩, hW, hsame.mono (by decide) (by decide)⟩
  · show Steps p.tables e below (s₁.setTop (mkF m 0 #[.val (.ref w1)] [])) _
    refine XS.aloadN X0.here hx rfl (hb hby d3_0) rfl rfl ?_
    show Steps p.tables e below (s₁.setTop (mkF m 1 #[.val (.ref w1)] [(.ref w1)])) _
    refine st3 _ ?_
    show Steps p.tables e below (T3.setTop (mkF m 4 #[.val (.ref w1)] [(.int p2)])) _
    exact retI X3 hx Bd.returns (hb hby d3_4) hr
  · show Q_rm3_0 Z w1 p2 h0 n0 _ T3.heap _
    rw [e3]
    exact ⟨rfl, N0, rfl⟩
theorem pd_1 : parseMethodDescriptor "()I" = some ⟨[], some .int⟩ := by decide +kernel
theorem d2_4 : decode prog_47_method_6_code 4 = .ok (.aload_n 1, 1) := by decide +kernel
theorem d2_5 : decode prog_47_method_6_code 5 = .ok (.invokevirtual 110, 3) := by decide +kernel
theorem d2_8 : decode prog_47_method_6_code 8 = .ok (.isub, 1) := by decide +kernel
theorem d2_9 : decode prog_47_method_6_code 9 = .ok (.invokestatic 111, 3) := by decide +kernel
theorem d4_0 : decode jdk_29_method_59_code 0 = .ok (.iload_n 0, 1) := by decide +kernel
theorem d4_1 : decode jdk_29_method_59_code 1 = .ok (.ifCond .ge 8, 3) := by decide +kernel
theorem d4_4 : decode jdk_29_method_59_code 4 = .ok (.iload_n 0, 1) := by decide +kernel
theorem d4_5 : decode jdk_29_method_59_code 5 = .ok (.ineg, 1) := by decide +kernel
theorem d4_6 : decode jdk_29_method_59_code 6 = .ok (.goto 4, 3) := by decide +kernel
theorem d4_10 : decode jdk_29_method_59_code 10 = .ok (.ireturn, 1) := by decide +kernel
theorem ef_4_22 (m : MethodId) (x0 : Int32) : entryFrame m #[(.int x0)] 1 = mkF m 0 #[.val (.int x0)] [] := by first | (simp [entryFrame, mkF, argsToLocals, Value.category]; done) | rfl
def Q_rm4_0 (Z : State) (p1 : Int32) (h0 : Heap) (n0 : Nat) (v : Option Value) (h : Heap) (L : List Loc) : Prop := v = some (.int (-p1)) ∧ Fr n0 L ∧ h = h0
set_option maxRecDepth 65536 in
set_option maxHeartbeats 40000000 in
theorem rm4_0 (l : Launch) (Z : State) (a0 : Array Value) (hw : ∀ d ∈ tables_1, d.before a0 Z = true) (ws : List Jvm.Cond) (p1 : Int32) (h0 : Heap) (n0 : Nat) (OL0 : Old Z n0 h0) (pr1 : p1 < (0 : Int32)) :
    MetFree l (⟨"java/lang/Math", "abs", "(I)I"⟩ : MethodName) (head1 (Jvm.Cond.code (⟨"java/lang/Math", "abs", "(I)I"⟩ : MethodName) jdk_29_method_59_code 1 (some .int) :: ws) ({ frames := 0, cells := 0, slots := 0, locals := 0 } : Room)) (fun a U => a = #[(.int p1)] ∧ Z.Warmed39 U.vm ∧ U.heap = h0) (fun _ _ _ _ _ => True) (fun _ U o U' => ∃ v L, o = .returned v ∧ Q_rm4_0 Z p1 h0 n0 v U'.heap L ∧ FrameEnd U o U' L ({ frames := 0, cells := 0, slots := 0, locals := 0 } : Room).cells ({ frames := 0, cells := 0, slots := 0, locals := 0 } : Room).slots) := by
  refine MetFree.of_bodySF (Jvm.Free.JP.mathPlain rfl (by decide +kernel)) hisR ?_
  intro p e s m args below meth c s₁ Bd hml0 hP hK
  obtain ⟨rfl, hZ, hh⟩ := hP
  have hx := Bd.exec
  have hby := Bd.bytes
  have hml : c.maxLocals = 1 := hml0
  have hown : s.vm.findClass "java/lang/Math" = some m.cls := findClass_of_methodNamed Bd.named
  have hnm := (name_of_methodNamed Bd.named Bd.method).1
  have X0 : Stand p l e ({ frames := 0, cells := 0, slots := 0, locals := 0 } : Room) s m #[(.int p1)] below meth c s₁ [] 0 0 := Stand.of_body Bd
  have e0 : s₁.heap = h0 := by rw [← hh, Bd.state]; rfl
  have N0 := Fr.nil n0
  have pre0 : ∀ t, Steps p.tables e below (s₁.setTop (mkF m 0 #[.val (.int p1)] [])) t → Steps p.tables e below (s₁.setTop (entryFrame m #[(.int p1)] 1)) t := fun t k => castTop (ef_4_22 m p1) k
  obtain ⟨fs, hr, hrun, hended, hW, hsame⟩ := X0.leave (v := some (.int (-p1))) (fun h => by rw [Bd.returns] at h; cases h)
  refine ⟨_, _, pre0 _ ?_, hrun, hended, _, _, rfl, ?_, ⟨_, rfl⟩, hW, hsame.mono (by decide) (by decide)⟩
  · show Steps p.tables e below (s₁.setTop (mkF m 0 #[.val (.int p1)] [])) _
    refine XS.iloadN X0.here hx rfl (hb hby d4_0) rfl ?_
    show Steps p.tables e below (s₁.setTop (mkF m 1 #[.val (.int p1)] [(.int p1)])) _
    refine XS.ifNo X0.here hx rfl (hb hby d4_1) rfl ((if0 _ _).trans (tlt pr1).2.1) ?_
    show Steps p.tables e below (s₁.setTop (mkF m 4 #[.val (.int p1)] [])) _
    refine XS.iloadN X0.here hx rfl (hb hby d4_4) rfl ?_
    show Steps p.tables e below (s₁.setTop (mkF m 5 #[.val (.int p1)] [(.int p1)])) _
    refine XS.ineg X0.here hx rfl (hb hby d4_5) rfl ?_
    show Steps p.tables e below (s₁.setTop (mkF m 6 #[.val (.int p1)] [(.int (-p1))])) _
    refine XS.goto X0.here hx rfl (pc0 := 6) (pc' := 10) rfl (hb hby d4_6) (by decide) (by decide) ?_
    show Steps p.tables e below (s₁.setTop (mkF m 10 #[.val (.int p1)] [(.int (-p1))])) _
    exact retI X0 hx Bd.returns (hb hby d4_10) hr
  · show Q_rm4_0 Z p1 h0 n0 _ s₁.heap _
    rw [e0]
    exact ⟨rfl, N0, rfl⟩
theorem pd_2 : parseMethodDescriptor "(I)I" = some ⟨[.int], some .int⟩ := by decide +kernel
theorem d2_12 : decode prog_47_method_6_code 12 = .ok (.ireturn, 1) := by decide +kernel
theorem ef_2_23 (m : MethodId) (x0 : Addr) (x1 : Addr) : entryFrame m #[(.ref x0), (.ref x1)] 2 = mkF m 0 #[.val (.ref x0), .val (.ref x1)] [] := by first | (simp [entryFrame, mkF, argsToLocals, Value.category]; done) | rfl
theorem pn_2 : plainName "com/example/facility_atlas/facilityatlas/Rating" = true := by first | (simp [plainName, overriddenIn]; done) | decide +kernel
def Q_rm2_0 (Z : State) (w1 : Addr) (w2 : Addr) (p3 : Int32) (p5 : Int32) (h0 : Heap) (n0 : Nat) (v : Option Value) (h : Heap) (L : List Loc) : Prop := v = some (.int (-(p3 - p5))) ∧ Fr n0 L ∧ h = h0
set_option maxRecDepth 65536 in
set_option maxHeartbeats 40000000 in
theorem rm2_0 (l : Launch) (Z : State) (a0 : Array Value) (hw : ∀ d ∈ tables_1, d.before a0 Z = true) (ws : List Jvm.Cond) (w1 : Addr) (w2 : Addr) (p3 : Int32) (p5 : Int32) (h0 : Heap) (n0 : Nat) (OL0 : Old Z n0 h0) (pr1 : Fld Z Z.heap w1 "java/lang/Enum" "ordinal" "I" (.int p3)) (pr2 : Exa Z Z.heap w1 "com/example/facility_atlas/facilityatlas/Rating") (pr3 : Fld Z Z.heap w2 "java/lang/Enum" "ordinal" "I" (.int p5)) (pr4 : Exa Z Z.heap w2 "com/example/facility_atlas/facilityatlas/Rating") (pr5 : (p3 - p5) < (0 : Int32)) :
    MetFree l (⟨"com/example/facility_atlas/facilityatlas/Rating", "gradesApart", "(Lcom/example/facility_atlas/facilityatlas/Rating;)I"⟩ : MethodName) (head1 (Jvm.Cond.code (⟨"com/example/facility_atlas/facilityatlas/Rating", "gradesApart", "(Lcom/example/facility_atlas/facilityatlas/Rating;)I"⟩ : MethodName) prog_47_method_6_code 2 (some .int) :: ws) ({ frames := 1, cells := 0, slots := 0, locals := 13 } : Room)) (fun a U => a = #[(.ref w1), (.ref w2)] ∧ Z.Warmed39 U.vm ∧ U.heap = h0) (fun _ _ _ _ _ => True) (fun _ U o U' => ∃ v L, o = .returned v ∧ Q_rm2_0 Z w1 w2 p3 p5 h0 n0 v U'.heap L ∧ FrameEnd U o U' L ({ frames := 1, cells := 0, slots := 0, locals := 13 } : Room).cells ({ frames := 1, cells := 0, slots := 0, locals := 13 } : Room).slots) := by
  refine MetFree.of_bodySF (plainFor_of_name pn_2) hisR ?_
  intro p e s m args below meth c s₁ Bd hml0 hP hK
  obtain ⟨rfl, hZ, hh⟩ := hP
  have hx := Bd.exec
  have hby := Bd.bytes
  have hml : c.maxLocals = 2 := hml0
  have hown : s.vm.findClass "com/example/facility_atlas/facilityatlas/Rating" = some m.cls := findClass_of_methodNamed Bd.named
  have hnm := (name_of_methodNamed Bd.named Bd.method).1
  have X0 : Stand p l e ({ frames := 1, cells := 0, slots := 0, locals := 13 } : Room) s m #[(.ref w1), (.ref w2)] below meth c s₁ [] 0 0 := Stand.of_body Bd
  have e0 : s₁.heap = h0 := by rw [← hh, Bd.state]; rfl
  have N0 := Fr.nil n0
  have pre0 : ∀ t, Steps p.tables e below (s₁.setTop (mkF m 0 #[.val (.ref w1), .val (.ref w2)] [])) t → Steps p.tables e below (s₁.setTop (entryFrame m #[(.ref w1), (.ref w2)] 2)) t := fun t k => castTop (ef_2_23 m w1 w2) k
  obtain ⟨cq4, kq4, q4a, q4b, q4c⟩ := isOf hZ e0 (pr2.ext OL0.2)
  obtain ⟨_, _, ⟨T4, L4, k4, n4⟩, -, X4, ⟨Lc4, hQ4, l4, y4, z4⟩, st4⟩ := X0.virtualBackUp hx (owner := "java/lang/Enum") (x := (⟨"com/example/facility_atlas/facilityatlas/Rating", "ordinal", "()I"⟩ : MethodName)) (y := (⟨"java/lang/Enum", "ordinal", "()I"⟩ : MethodName)) hown (mvT hZ (wd15 hw)) (mvT hZ (wd16 hw)) (mvT hZ (wd17 hw)) (by decide) (mvT hZ (wd19 hw)) (mvT hZ (wd18 hw)) (backOf (W := 0) (rm3_0 l Z a0 hw [] w1 p3 h0 n0 OL0 pr1) hZ (wd21 hw) (wd20 hw) (by decide) (by decide)) q4a q4c (g := (mkF m 1 #[.val (.ref w1), .val (.ref w2)] [(.ref w1)])) rfl (by rw [hml]; rfl) (Steps.refl _) (argsL := []) (rest := []) (lenOf pd_1 rfl) rfl (by show 2 * 0 + _ ≤ _; exact Nat.le_of_eq rfl) (hb hby d2_1) (fun _ _ => ⟨rfl, e0, (by decide : 0 + 0 ≤ _), (by decide : 0 + 0 ≤ _)⟩)
  dsimp only [Pt.U, Pt.locs, Pt.cells, Pt.slots] at X4 l4 y4 z4 st4 hQ4
  subst l4 y4 z4
  obtain ⟨rfl, Nq4, ec4⟩ := hQ4
  have N4 := Fr.app N0 Nq4
  obtain ⟨cq6, kq6, q6a, q6b, q6c⟩ := isOf hZ ec4 (pr4.ext OL0.2)
  obtain ⟨_, _, ⟨T6, L6, k6, n6⟩, -, X6, ⟨Lc6, hQ6, l6, y6, z6⟩, st6⟩ := X4.virtualBackUp hx (owner := "java/lang/Enum") (x := (⟨"com/example/facility_atlas/facilityatlas/Rating", "ordinal", "()I"⟩ : MethodName)) (y := (⟨"java/lang/Enum", "ordinal", "()I"⟩ : MethodName)) hown (mvT hZ (wd15 hw)) (mvT hZ (wd16 hw)) (mvT hZ (wd17 hw)) (by decide) (mvT hZ (wd19 hw)) (mvT hZ (wd18 hw)) (backOf (W := 1) (rm3_0 l Z a0 hw [] w2 p5 h0 n0 OL0 pr3) hZ (wd21 hw) (wd20 hw) (by decide) (by decide)) q6a q6c (g := (mkF m 5 #[.val (.ref w1), .val (.ref w2)] [(.ref w2), (.int p3)])) rfl (by rw [hml]; rfl) (Steps.refl _) (argsL := []) (rest := [(.int p3)]) (lenOf pd_1 rfl) rfl (by show 2 * 0 + _ ≤ _; exact Nat.le_of_eq rfl) (hb hby d2_5) (fun _ _ => ⟨rfl, ec4, (by decide : 0 + 0 ≤ _), (by decide : 0 + 0 ≤ _)⟩)
  dsimp only [Pt.U, Pt.locs, Pt.cells, Pt.slots] at X6 l6 y6 z6 st6 hQ6
  subst l6 y6 z6
  obtain ⟨rfl, Nq6, ec6⟩ := hQ6
  have N6 := Fr.app N4 Nq6
  obtain ⟨_, _, ⟨T7, L7, k7, n7⟩, -, X7, ⟨Lc7, hQ7, l7, y7, z7⟩, st7⟩ := Jvm.LawKit.callS X6 hx (y := (⟨"java/lang/Math", "abs", "(I)I"⟩ : MethodName)) hown (mvT hZ (wd24 hw)) (mvT hZ (wd25 hw)) (mvT hZ (wd26 hw)) (mvT hZ (wd27 hw)) (by decide) (backOf (W := 0) (rm4_0 l Z a0 hw [] (p3 - p5) h0 n0 OL0 pr5) hZ (wd27 hw) (wd26 hw) (by decide) (by decide)) (g := (mkF m 9 #[.val (.ref w1), .val (.ref w2)] [(.int (p3 - p5))])) rfl (by rw [hml]; rfl) (argsL := [(.int (p3 - p5))]) (rest := []) (lenOf pd_2 rfl) rfl (by show 2 * 0 + _ ≤ _; exact Nat.le_of_eq rfl) (hb hby d2_9) (fun _ _ => ⟨rfl, ec6, (by decide : 0 + 0 ≤ _), (by decide : 0 + 0 ≤ _)⟩)
  dsimp only [Pt.U, Pt.locs, Pt.cells, Pt.slots] at X7 l7 y7 z7 st7 hQ7
  subst l7 y7 z7
  obtain ⟨rfl, Nq7, ec7⟩ := hQ7
  have N7 := Fr.app N6 Nq7
  obtain ⟨fs, hr, hrun, hended, hW, hsame⟩ := X7.leave (v := some (.int (-(p3 - p5)))) (fun h => by rw [Bd.returns] at h; cases h)
  refine ⟨_, _, pre0 _ ?_, hrun, hended, _, _, rfl, ?_, ⟨_, rfl⟩, hW, hsame.mono (by decide) (by decide)⟩
  · show Steps p.tables e below (s₁.setTop (mkF m 0 #[.val (.ref w1), .val (.ref w2)] [])) _
    refine XS.aloadN X0.here hx rfl (hb hby d2_0) rfl rfl ?_
    show Steps p.tables e below (s₁.setTop (mkF m 1 #[.val (.ref w1), .val (.ref w2)] [(.ref w1)])) _
    refine st4.trans ?_
    show Steps p.tables e below (T4.setTop (mkF m 4 #[.val (.ref w1), .val (.ref w2)] [(.int p3)])) _
    refine XS.aloadN X4.here hx rfl (hb hby d2_4) rfl rfl ?_
    show Steps p.tables e below (T4.setTop (mkF m 5 #[.val (.ref w1), .val (.ref w2)] [(.ref w2), (.int p3)])) _
    refine st6.trans ?_
    show Steps p.tables e below (T6.setTop (mkF m 8 #[.val (.ref w1), .val (.ref w2)] [(.int p5), (.int p3)])) _
    refine XS.isub X6.here hx rfl (hb hby d2_8) rfl ?_
    show Steps p.tables e below (T6.setTop (mkF m 9 #[.val (.ref w1), .val (.ref w2)] [(.int (p3 - p5))])) _
    refine st7 _ ?_
    show Steps p.tables e below (T7.setTop (mkF m 12 #[.val (.ref w1), .val (.ref w2)] [(.int (-(p3 - p5)))])) _
    exact retI X7 hx Bd.returns (hb hby d2_12) hr
  · show Q_rm2_0 Z w1 w2 p3 p5 h0 n0 _ T7.heap _
    rw [ec7]
    exact ⟨rfl, N7, rfl⟩
theorem pd_3 : parseMethodDescriptor "(Lcom/example/facility_atlas/facilityatlas/Rating;)I" = some ⟨[(.object "com/example/facility_atlas/facilityatlas/Rating")], some .int⟩ := by decide +kernel
theorem ef_0_24 (m : MethodId) (x0 : Int32) (x1 : Int32) : entryFrame m #[(.int x0), (.int x1)] maxLocals = mkF m 0 #[.val (.int x0), .val (.int x1), .unset, .unset, .unset, .unset, .unset] [] := by first | (simp [entryFrame, mkF, argsToLocals, Value.category, maxLocals]; done) | rfl
set_option maxRecDepth 65536 in
set_option maxHeartbeats 40000000 in
theorem rm0_lt (l : Launch) (Z : State) (a0 : Array Value) (hw : ∀ d ∈ tables_1, d.before a0 Z = true) (ws : List Jvm.Cond) (p1 : Int32) (p2 : Int32) (w_AAA : Addr) (w_AA_PLUS : Addr) (w_AA : Addr) (w_AA_MINUS : Addr) (w_A_PLUS : Addr) (w_A : Addr) (w_A_MINUS : Addr) (w_BBB_PLUS : Addr) (w_BBB : Addr) (w_BBB_MINUS : Addr) (w_BB_PLUS : Addr) (w_BB : Addr) (w_BB_MINUS : Addr) (w_B_PLUS : Addr) (w_B : Addr) (w_B_MINUS : Addr) (w_CCC_PLUS : Addr) (w_CCC : Addr) (w_CCC_MINUS : Addr) (w_CC : Addr) (w_C : Addr) (v1 : Addr) (v2 : Addr) (h0 : Heap) (n0 : Nat) (OL0 : Old Z n0 h0) (pr1 : SelG Z ((p1 &&& (2147483647 : Int32)) % (21 : Int32)) v1) (pr2 : SelG Z ((p2 &&& (2147483647 : Int32)) % (21 : Int32)) v2) (pr3 : ((p1 &&& (2147483647 : Int32)) % (21 : Int32)) < ((p2 &&& (2147483647 : Int32)) % (21 : Int32))) (pr4 : Fld Z Z.heap v1 "java/lang/Enum" "ordinal" "I" (.int ((p1 &&& (2147483647 : Int32)) % (21 : Int32)))) (pr5 : Exa Z Z.heap v1 "com/example/facility_atlas/facilityatlas/Rating") (pr6 : Fld Z Z.heap v2 "java/lang/Enum" "ordinal" "I" (.int ((p2 &&& (2147483647 : Int32)) % (21 : Int32)))) (pr7 : Exa Z Z.heap v2 "com/example/facility_atlas/facilityatlas/Rating") (pr8 : (((p1 &&& (2147483647 : Int32)) % (21 : Int32)) - ((p2 &&& (2147483647 : Int32)) % (21 : Int32))) < (0 : Int32)) (pr9 : (-(((p1 &&& (2147483647 : Int32)) % (21 : Int32)) - ((p2 &&& (2147483647 : Int32)) % (21 : Int32)))) = (((p2 &&& (2147483647 : Int32)) % (21 : Int32)) - ((p1 &&& (2147483647 : Int32)) % (21 : Int32)))) :
    MetFree l x (head1 (Jvm.Cond.code x code maxLocals ret :: ws) room_1) (fun a U => a = #[(.int p1), (.int p2)] ∧ Z.Warmed39 U.vm ∧ U.heap = h0) (fun _ _ _ _ _ => True) (fun _ U o U' => ∃ v L, o = .returned v ∧ Q0 n0 v L ∧ FrameEnd U o U' L 0 0) := by
  refine MetFree.of_bodySF (plainFor_of_name pn_0) hisR ?_
  intro p e s m args below meth c s₁ Bd hml0 hP hK
  obtain ⟨rfl, hZ, hh⟩ := hP
  have hx := Bd.exec
  have hby := Bd.bytes
  have hml : c.maxLocals = 7 := hml0
  have hown : s.vm.findClass "com/example/facility_atlas/facilityatlas/RatingGradesApartPinLaw" = some m.cls := findClass_of_methodNamed Bd.named
  have hnm := (name_of_methodNamed Bd.named Bd.method).1
  have X0 : Stand p l e room_1 s m #[(.int p1), (.int p2)] below meth c s₁ [] 0 0 := Stand.of_body Bd
  have e0 : s₁.heap = h0 := by rw [← hh, Bd.state]; rfl
  have N0 := Fr.nil n0
  have pre0 : ∀ t, Steps p.tables e below (s₁.setTop (mkF m 0 #[.val (.int p1), .val (.int p2), .unset, .unset, .unset, .unset, .unset] [])) t → Steps p.tables e below (s₁.setTop (entryFrame m #[(.int p1), (.int p2)] maxLocals)) t := fun t k => castTop (ef_0_24 m p1 p2) k
  obtain ⟨_, _, ⟨T1, L1, k1, n1⟩, -, X1, ⟨Lc1, hQ1, l1, y1, z1⟩, st1⟩ := Jvm.LawKit.callS X0 hx (y := (⟨"com/example/facility_atlas/facilityatlas/RatingGradesApartPinLaw", "grade", "(I)Lcom/example/facility_atlas/facilityatlas/Rating;"⟩ : MethodName)) hown (mvT hZ (wd1 hw)) (mvT hZ (wd2 hw)) (mvT hZ (wd3 hw)) (mvT hZ (wd4 hw)) (by decide) (backOf (W := 0) (gr_any l Z a0 hw [] ((p1 &&& (2147483647 : Int32)) % (21 : Int32)) v1 h0 n0 OL0 pr1) hZ (wd4 hw) (wd3 hw) (by decide) (by decide)) (g := (mkF m 17 #[.val (.int p1), .val (.int p2), .val (.int ((p1 &&& (2147483647 : Int32)) % (21 : Int32))), .val (.int ((p2 &&& (2147483647 : Int32)) % (21 : Int32))), .unset, .unset, .unset] [(.int ((p1 &&& (2147483647 : Int32)) % (21 : Int32)))])) rfl (by rw [hml]; rfl) (argsL := [(.int ((p1 &&& (2147483647 : Int32)) % (21 : Int32)))]) (rest := []) (lenOf pd_0 rfl) rfl (by show 2 * 0 + _ ≤ _; exact Nat.le_of_eq rfl) (hb hby at_17) (fun _ _ => ⟨rfl, e0, (by decide : 0 + 0 ≤ _), (by decide : 0 + 0 ≤ _)⟩)
  dsimp only [Pt.U, Pt.locs, Pt.cells, Pt.slots] at X1 l1 y1 z1 st1 hQ1
  subst l1 y1 z1
  obtain ⟨rfl, Nq1, ec1⟩ := hQ1
  have N1 := Fr.app N0 Nq1
  obtain ⟨_, _, ⟨T2, L2, k2, n2⟩, -, X2, ⟨Lc2, hQ2, l2, y2, z2⟩, st2⟩ := Jvm.LawKit.callS X1 hx (y := (⟨"com/example/facility_atlas/facilityatlas/RatingGradesApartPinLaw", "grade", "(I)Lcom/example/facility_atlas/facilityatlas/Rating;"⟩ : MethodName)) hown (mvT hZ (wd1 hw)) (mvT hZ (wd2 hw)) (mvT hZ (wd3 hw)) (mvT hZ (wd4 hw)) (by decide) (backOf (W := 0) (gr_any l Z a0 hw [] ((p2 &&& (2147483647 : Int32)) % (21 : Int32)) v2 h0 n0 OL0 pr2) hZ (wd4 hw) (wd3 hw) (by decide) (by decide)) (g := (mkF m 23 #[.val (.int p1), .val (.int p2), .val (.int ((p1 &&& (2147483647 : Int32)) % (21 : Int32))), .val (.int ((p2 &&& (2147483647 : Int32)) % (21 : Int32))), .val (.ref v1), .unset, .unset] [(.int ((p2 &&& (2147483647 : Int32)) % (21 : Int32)))])) rfl (by rw [hml]; rfl) (argsL := [(.int ((p2 &&& (2147483647 : Int32)) % (21 : Int32)))]) (rest := []) (lenOf pd_0 rfl) rfl (by show 2 * 0 + _ ≤ _; exact Nat.le_of_eq rfl) (hb hby at_23) (fun _ _ => ⟨rfl, ec1, (by decide : 0 + 0 ≤ _), (by decide : 0 + 0 ≤ _)⟩)
  dsimp only [Pt.U, Pt.locs, Pt.cells, Pt.slots] at X2 l2 y2 z2 st2 hQ2
  subst l2 y2 z2
  obtain ⟨rfl, Nq2, ec2⟩ := hQ2
  have N2 := Fr.app N1 Nq2
  obtain ⟨cq3, kq3, q3a, q3b, q3c⟩ := isOf hZ ec2 (pr5.ext OL0.2)
  obtain ⟨_, _, ⟨T3, L3, k3, n3⟩, -, X3, ⟨Lc3, hQ3, l3, y3, z3⟩, st3⟩ := X2.virtualBack hx (y := (⟨"com/example/facility_atlas/facilityatlas/Rating", "gradesApart", "(Lcom/example/facility_atlas/facilityatlas/Rating;)I"⟩ : MethodName)) (z := (⟨"com/example/facility_atlas/facilityatlas/Rating", "gradesApart", "(Lcom/example/facility_atlas/facilityatlas/Rating;)I"⟩ : MethodName)) hown (mvT hZ (wd10 hw)) (mvT hZ (wd11 hw)) (notFace_of_selects (args := #[]) (mvT hZ (wd13 hw))) (mvT hZ (wd13 hw)) (mvT hZ (wd12 hw)) (by decide) (backOf (W := 0) (rm2_0 l Z a0 hw [] v1 v2 ((p1 &&& (2147483647 : Int32)) % (21 : Int32)) ((p2 &&& (2147483647 : Int32)) % (21 : Int32)) h0 n0 OL0 pr4 pr5 pr6 pr7 pr8) hZ (wd14 hw) (wd6 hw) (by decide) (by decide)) q3a q3c (g := (mkF m 48 #[.val (.int p1), .val (.int p2), .val (.int ((p1 &&& (2147483647 : Int32)) % (21 : Int32))), .val (.int ((p2 &&& (2147483647 : Int32)) % (21 : Int32))), .val (.ref v1), .val (.ref v2), .val (.int (((p2 &&& (2147483647 : Int32)) % (21 : Int32)) - ((p1 &&& (2147483647 : Int32)) % (21 : Int32))))] [(.ref v2), (.ref v1)])) rfl (by rw [hml]; rfl) (Steps.refl _) (argsL := [(.ref v2)]) (rest := []) (lenOf pd_3 rfl) rfl (by show 2 * 0 + _ ≤ _; exact Nat.le_of_eq rfl) (hb hby at_48) (fun _ _ => ⟨rfl, ec2, (by decide : 0 + 0 ≤ _), (by decide : 0 + 0 ≤ _)⟩)
  dsimp only [Pt.U, Pt.locs, Pt.cells, Pt.slots] at X3 l3 y3 z3 st3 hQ3
  subst l3 y3 z3
  obtain ⟨rfl, Nq3, ec3⟩ := hQ3
  have N3 := Fr.app N2 Nq3
  obtain ⟨fs, hr, hrun, hended, hW, hsame⟩ := X3.leave (v := some (.int (1 : Int32))) (fun h => by rw [Bd.returns] at h; cases h)
  refine ⟨_, _, pre0 _ ?_, hrun, hended, _, _, rfl, ?_, ⟨_, rfl⟩, hW, hsame.mono (by decide) (by decide)⟩
  · show Steps p.tables e below (s₁.setTop (mkF m 0 #[.val (.int p1), .val (.int p2), .unset, .unset, .unset, .unset, .unset] [])) _
    refine XS.iloadN X0.here hx rfl (hb hby at_0) rfl ?_
    show Steps p.tables e below (s₁.setTop (mkF m 1 #[.val (.int p1), .val (.int p2), .unset, .unset, .unset, .unset, .unset] [(.int p1)])) _
    refine X0.ldcInt hx hown (mvT hZ (wd0 hw)) (g := (mkF m 1 #[.val (.int p1), .val (.int p2), .unset, .unset, .unset, .unset, .unset] [(.int p1)])) rfl (hb hby at_1) _ ?_
    show Steps p.tables e below (s₁.setTop (mkF m 3 #[.val (.int p1), .val (.int p2), .unset, .unset, .unset, .unset, .unset] [(.int (2147483647 : Int32)), (.int p1)])) _
    refine XS.iand X0.here hx rfl (hb hby at_3) rfl ?_
    show Steps p.tables e below (s₁.setTop (mkF m 4 #[.val (.int p1), .val (.int p2), .unset, .unset, .unset, .unset, .unset] [(.int (p1 &&& (2147483647 : Int32)))])) _
    refine XS.bipush X0.here hx rfl (hb hby at_4) ?_
    show Steps p.tables e below (s₁.setTop (mkF m 6 #[.val (.int p1), .val (.int p2), .unset, .unset, .unset, .unset, .unset] [(.int (21 : Int32)), (.int (p1 &&& (2147483647 : Int32)))])) _
    refine iremM X0 hx rfl (hb hby at_6) rfl (by decide) ?_
    show Steps p.tables e below (s₁.setTop (mkF m 7 #[.val (.int p1), .val (.int p2), .unset, .unset, .unset, .unset, .unset] [(.int ((p1 &&& (2147483647 : Int32)) % (21 : Int32)))])) _
    refine XS.istoreN X0.here hx rfl (hb hby at_7) rfl (l' := #[.val (.int p1), .val (.int p2), .val (.int ((p1 &&& (2147483647 : Int32)) % (21 : Int32))), .unset, .unset, .unset, .unset]) rfl ?_
    show Steps p.tables e below (s₁.setTop (mkF m 8 #[.val (.int p1), .val (.int p2), .val (.int ((p1 &&& (2147483647 : Int32)) % (21 : Int32))), .unset, .unset, .unset, .unset] [])) _
    refine XS.iloadN X0.here hx rfl (hb hby at_8) rfl ?_
    show Steps p.tables e below (s₁.setTop (mkF m 9 #[.val (.int p1), .val (.int p2), .val (.int ((p1 &&& (2147483647 : Int32)) % (21 : Int32))), .unset, .unset, .unset, .unset] [(.int p2)])) _
    refine X0.ldcInt hx hown (mvT hZ (wd0 hw)) (g := (mkF m 9 #[.val (.int p1), .val (.int p2), .val (.int ((p1 &&& (2147483647 : Int32)) % (21 : Int32))), .unset, .unset, .unset, .unset] [(.int p2)])) rfl (hb hby at_9) _ ?_
    show Steps p.tables e below (s₁.setTop (mkF m 11 #[.val (.int p1), .val (.int p2), .val (.int ((p1 &&& (2147483647 : Int32)) % (21 : Int32))), .unset, .unset, .unset, .unset] [(.int (2147483647 : Int32)), (.int p2)])) _
    refine XS.iand X0.here hx rfl (hb hby at_11) rfl ?_
    show Steps p.tables e below (s₁.setTop (mkF m 12 #[.val (.int p1), .val (.int p2), .val (.int ((p1 &&& (2147483647 : Int32)) % (21 : Int32))), .unset, .unset, .unset, .unset] [(.int (p2 &&& (2147483647 : Int32)))])) _
    refine XS.bipush X0.here hx rfl (hb hby at_12) ?_
    show Steps p.tables e below (s₁.setTop (mkF m 14 #[.val (.int p1), .val (.int p2), .val (.int ((p1 &&& (2147483647 : Int32)) % (21 : Int32))), .unset, .unset, .unset, .unset] [(.int (21 : Int32)), (.int (p2 &&& (2147483647 : Int32)))])) _
    refine iremM X0 hx rfl (hb hby at_14) rfl (by decide) ?_
    show Steps p.tables e below (s₁.setTop (mkF m 15 #[.val (.int p1), .val (.int p2), .val (.int ((p1 &&& (2147483647 : Int32)) % (21 : Int32))), .unset, .unset, .unset, .unset] [(.int ((p2 &&& (2147483647 : Int32)) % (21 : Int32)))])) _
    refine XS.istoreN X0.here hx rfl (hb hby at_15) rfl (l' := #[.val (.int p1), .val (.int p2), .val (.int ((p1 &&& (2147483647 : Int32)) % (21 : Int32))), .val (.int ((p2 &&& (2147483647 : Int32)) % (21 : Int32))), .unset, .unset, .unset]) rfl ?_
    show Steps p.tables e below (s₁.setTop (mkF m 16 #[.val (.int p1), .val (.int p2), .val (.int ((p1 &&& (2147483647 : Int32)) % (21 : Int32))), .val (.int ((p2 &&& (2147483647 : Int32)) % (21 : Int32))), .unset, .unset, .unset] [])) _
    refine XS.iloadN X0.here hx rfl (hb hby at_16) rfl ?_
    show Steps p.tables e below (s₁.setTop (mkF m 17 #[.val (.int p1), .val (.int p2), .val (.int ((p1 &&& (2147483647 : Int32)) % (21 : Int32))), .val (.int ((p2 &&& (2147483647 : Int32)) % (21 : Int32))), .unset, .unset, .unset] [(.int ((p1 &&& (2147483647 : Int32)) % (21 : Int32)))])) _
    refine st1 _ ?_
    show Steps p.tables e below (T1.setTop (mkF m 20 #[.val (.int p1), .val (.int p2), .val (.int ((p1 &&& (2147483647 : Int32)) % (21 : Int32))), .val (.int ((p2 &&& (2147483647 : Int32)) % (21 : Int32))), .unset, .unset, .unset] [(.ref v1)])) _
    refine XS.astore X1.here hx rfl (hb hby at_20) rfl rfl (l' := #[.val (.int p1), .val (.int p2), .val (.int ((p1 &&& (2147483647 : Int32)) % (21 : Int32))), .val (.int ((p2 &&& (2147483647 : Int32)) % (21 : Int32))), .val (.ref v1), .unset, .unset]) rfl ?_
    show Steps p.tables e below (T1.setTop (mkF m 22 #[.val (.int p1), .val (.int p2), .val (.int ((p1 &&& (2147483647 : Int32)) % (21 : Int32))), .val (.int ((p2 &&& (2147483647 : Int32)) % (21 : Int32))), .val (.ref v1), .unset, .unset] [])) _
    refine XS.iloadN X1.here hx rfl (hb hby at_22) rfl ?_
    show Steps p.tables e below (T1.setTop (mkF m 23 #[.val (.int p1), .val (.int p2), .val (.int ((p1 &&& (2147483647 : Int32)) % (21 : Int32))), .val (.int ((p2 &&& (2147483647 : Int32)) % (21 : Int32))), .val (.ref v1), .unset, .unset] [(.int ((p2 &&& (2147483647 : Int32)) % (21 : Int32)))])) _
    refine st2 _ ?_
    show Steps p.tables e below (T2.setTop (mkF m 26 #[.val (.int p1), .val (.int p2), .val (.int ((p1 &&& (2147483647 : Int32)) % (21 : Int32))), .val (.int ((p2 &&& (2147483647 : Int32)) % (21 : Int32))), .val (.ref v1), .unset, .unset] [(.ref v2)])) _
    refine XS.astore X2.here hx rfl (hb hby at_26) rfl rfl (l' := #[.val (.int p1), .val (.int p2), .val (.int ((p1 &&& (2147483647 : Int32)) % (21 : Int32))), .val (.int ((p2 &&& (2147483647 : Int32)) % (21 : Int32))), .val (.ref v1), .val (.ref v2), .unset]) rfl ?_
    show Steps p.tables e below (T2.setTop (mkF m 28 #[.val (.int p1), .val (.int p2), .val (.int ((p1 &&& (2147483647 : Int32)) % (21 : Int32))), .val (.int ((p2 &&& (2147483647 : Int32)) % (21 : Int32))), .val (.ref v1), .val (.ref v2), .unset] [])) _
    refine XS.iloadN X2.here hx rfl (hb hby at_28) rfl ?_
    show Steps p.tables e below (T2.setTop (mkF m 29 #[.val (.int p1), .val (.int p2), .val (.int ((p1 &&& (2147483647 : Int32)) % (21 : Int32))), .val (.int ((p2 &&& (2147483647 : Int32)) % (21 : Int32))), .val (.ref v1), .val (.ref v2), .unset] [(.int ((p1 &&& (2147483647 : Int32)) % (21 : Int32)))])) _
    refine XS.iloadN X2.here hx rfl (hb hby at_29) rfl ?_
    show Steps p.tables e below (T2.setTop (mkF m 30 #[.val (.int p1), .val (.int p2), .val (.int ((p1 &&& (2147483647 : Int32)) % (21 : Int32))), .val (.int ((p2 &&& (2147483647 : Int32)) % (21 : Int32))), .val (.ref v1), .val (.ref v2), .unset] [(.int ((p2 &&& (2147483647 : Int32)) % (21 : Int32))), (.int ((p1 &&& (2147483647 : Int32)) % (21 : Int32)))])) _
    refine XS.icmpYes X2.here hx rfl (pc0 := 30) (pc' := 39) rfl (hb hby at_30) rfl (tlt pr3).1 (by decide) (by decide) ?_
    show Steps p.tables e below (T2.setTop (mkF m 39 #[.val (.int p1), .val (.int p2), .val (.int ((p1 &&& (2147483647 : Int32)) % (21 : Int32))), .val (.int ((p2 &&& (2147483647 : Int32)) % (21 : Int32))), .val (.ref v1), .val (.ref v2), .unset] [])) _
    refine XS.iloadN X2.here hx rfl (hb hby at_39) rfl ?_
    show Steps p.tables e below (T2.setTop (mkF m 40 #[.val (.int p1), .val (.int p2), .val (.int ((p1 &&& (2147483647 : Int32)) % (21 : Int32))), .val (.int ((p2 &&& (2147483647 : Int32)) % (21 : Int32))), .val (.ref v1), .val (.ref v2), .unset] [(.int ((p2 &&& (2147483647 : Int32)) % (21 : Int32)))])) _
    refine XS.iloadN X2.here hx rfl (hb hby at_40) rfl ?_
    show Steps p.tables e below (T2.setTop (mkF m 41 #[.val (.int p1), .val (.int p2), .val (.int ((p1 &&& (2147483647 : Int32)) % (21 : Int32))), .val (.int ((p2 &&& (2147483647 : Int32)) % (21 : Int32))), .val (.ref v1), .val (.ref v2), .unset] [(.int ((p1 &&& (2147483647 : Int32)) % (21 : Int32))), (.int ((p2 &&& (2147483647 : Int32)) % (21 : Int32)))])) _
    refine XS.isub X2.here hx rfl (hb hby at_41) rfl ?_
    show Steps p.tables e below (T2.setTop (mkF m 42 #[.val (.int p1), .val (.int p2), .val (.int ((p1 &&& (2147483647 : Int32)) % (21 : Int32))), .val (.int ((p2 &&& (2147483647 : Int32)) % (21 : Int32))), .val (.ref v1), .val (.ref v2), .unset] [(.int (((p2 &&& (2147483647 : Int32)) % (21 : Int32)) - ((p1 &&& (2147483647 : Int32)) % (21 : Int32))))])) _
    refine XS.istore X2.here hx rfl (hb hby at_42) rfl (l' := #[.val (.int p1), .val (.int p2), .val (.int ((p1 &&& (2147483647 : Int32)) % (21 : Int32))), .val (.int ((p2 &&& (2147483647 : Int32)) % (21 : Int32))), .val (.ref v1), .val (.ref v2), .val (.int (((p2 &&& (2147483647 : Int32)) % (21 : Int32)) - ((p1 &&& (2147483647 : Int32)) % (21 : Int32))))]) rfl ?_
    show Steps p.tables e below (T2.setTop (mkF m 44 #[.val (.int p1), .val (.int p2), .val (.int ((p1 &&& (2147483647 : Int32)) % (21 : Int32))), .val (.int ((p2 &&& (2147483647 : Int32)) % (21 : Int32))), .val (.ref v1), .val (.ref v2), .val (.int (((p2 &&& (2147483647 : Int32)) % (21 : Int32)) - ((p1 &&& (2147483647 : Int32)) % (21 : Int32))))] [])) _
    refine XS.aload X2.here hx rfl (hb hby at_44) rfl rfl ?_
    show Steps p.tables e below (T2.setTop (mkF m 46 #[.val (.int p1), .val (.int p2), .val (.int ((p1 &&& (2147483647 : Int32)) % (21 : Int32))), .val (.int ((p2 &&& (2147483647 : Int32)) % (21 : Int32))), .val (.ref v1), .val (.ref v2), .val (.int (((p2 &&& (2147483647 : Int32)) % (21 : Int32)) - ((p1 &&& (2147483647 : Int32)) % (21 : Int32))))] [(.ref v1)])) _
    refine XS.aload X2.here hx rfl (hb hby at_46) rfl rfl ?_
    show Steps p.tables e below (T2.setTop (mkF m 48 #[.val (.int p1), .val (.int p2), .val (.int ((p1 &&& (2147483647 : Int32)) % (21 : Int32))), .val (.int ((p2 &&& (2147483647 : Int32)) % (21 : Int32))), .val (.ref v1), .val (.ref v2), .val (.int (((p2 &&& (2147483647 : Int32)) % (21 : Int32)) - ((p1 &&& (2147483647 : Int32)) % (21 : Int32))))] [(.ref v2), (.ref v1)])) _
    refine st3.trans ?_
    show Steps p.tables e below (T3.setTop (mkF m 51 #[.val (.int p1), .val (.int p2), .val (.int ((p1 &&& (2147483647 : Int32)) % (21 : Int32))), .val (.int ((p2 &&& (2147483647 : Int32)) % (21 : Int32))), .val (.ref v1), .val (.ref v2), .val (.int (((p2 &&& (2147483647 : Int32)) % (21 : Int32)) - ((p1 &&& (2147483647 : Int32)) % (21 : Int32))))] [(.int (-(((p1 &&& (2147483647 : Int32)) % (21 : Int32)) - ((p2 &&& (2147483647 : Int32)) % (21 : Int32)))))])) _
    refine XS.iload X3.here hx rfl (hb hby at_51) rfl ?_
    show Steps p.tables e below (T3.setTop (mkF m 53 #[.val (.int p1), .val (.int p2), .val (.int ((p1 &&& (2147483647 : Int32)) % (21 : Int32))), .val (.int ((p2 &&& (2147483647 : Int32)) % (21 : Int32))), .val (.ref v1), .val (.ref v2), .val (.int (((p2 &&& (2147483647 : Int32)) % (21 : Int32)) - ((p1 &&& (2147483647 : Int32)) % (21 : Int32))))] [(.int (((p2 &&& (2147483647 : Int32)) % (21 : Int32)) - ((p1 &&& (2147483647 : Int32)) % (21 : Int32)))), (.int (-(((p1 &&& (2147483647 : Int32)) % (21 : Int32)) - ((p2 &&& (2147483647 : Int32)) % (21 : Int32)))))])) _
    refine XS.icmpNo X3.here hx rfl (hb hby at_53) rfl (teq pr9).2 ?_
    show Steps p.tables e below (T3.setTop (mkF m 56 #[.val (.int p1), .val (.int p2), .val (.int ((p1 &&& (2147483647 : Int32)) % (21 : Int32))), .val (.int ((p2 &&& (2147483647 : Int32)) % (21 : Int32))), .val (.ref v1), .val (.ref v2), .val (.int (((p2 &&& (2147483647 : Int32)) % (21 : Int32)) - ((p1 &&& (2147483647 : Int32)) % (21 : Int32))))] [])) _
    refine XS.iconst X3.here hx rfl (hb hby at_56) ?_
    show Steps p.tables e below (T3.setTop (mkF m 57 #[.val (.int p1), .val (.int p2), .val (.int ((p1 &&& (2147483647 : Int32)) % (21 : Int32))), .val (.int ((p2 &&& (2147483647 : Int32)) % (21 : Int32))), .val (.ref v1), .val (.ref v2), .val (.int (((p2 &&& (2147483647 : Int32)) % (21 : Int32)) - ((p1 &&& (2147483647 : Int32)) % (21 : Int32))))] [(.int (1 : Int32))])) _
    refine XS.goto X3.here hx rfl (pc0 := 57) (pc' := 61) rfl (hb hby at_57) (by decide) (by decide) ?_
    show Steps p.tables e below (T3.setTop (mkF m 61 #[.val (.int p1), .val (.int p2), .val (.int ((p1 &&& (2147483647 : Int32)) % (21 : Int32))), .val (.int ((p2 &&& (2147483647 : Int32)) % (21 : Int32))), .val (.ref v1), .val (.ref v2), .val (.int (((p2 &&& (2147483647 : Int32)) % (21 : Int32)) - ((p1 &&& (2147483647 : Int32)) % (21 : Int32))))] [(.int (1 : Int32))])) _
    exact retN X3 hx (t := .boolean) Bd.returns (by simp) (hb hby at_61) hr
  · exact ⟨rfl, N3⟩
theorem d4_9 : decode jdk_29_method_59_code 9 = .ok (.iload_n 0, 1) := by decide +kernel
def Q_rm4_1 (Z : State) (p1 : Int32) (h0 : Heap) (n0 : Nat) (v : Option Value) (h : Heap) (L : List Loc) : Prop := v = some (.int p1) ∧ Fr n0 L ∧ h = h0
set_option maxRecDepth 65536 in
set_option maxHeartbeats 40000000 in
theorem rm4_1 (l : Launch) (Z : State) (a0 : Array Value) (hw : ∀ d ∈ tables_1, d.before a0 Z = true) (ws : List Jvm.Cond) (p1 : Int32) (h0 : Heap) (n0 : Nat) (OL0 : Old Z n0 h0) (pr1 : ¬ (p1 < (0 : Int32))) :
    MetFree l (⟨"java/lang/Math", "abs", "(I)I"⟩ : MethodName) (head1 (Jvm.Cond.code (⟨"java/lang/Math", "abs", "(I)I"⟩ : MethodName) jdk_29_method_59_code 1 (some .int) :: ws) ({ frames := 0, cells := 0, slots := 0, locals := 0 } : Room)) (fun a U => a = #[(.int p1)] ∧ Z.Warmed39 U.vm ∧ U.heap = h0) (fun _ _ _ _ _ => True) (fun _ U o U' => ∃ v L, o = .returned v ∧ Q_rm4_1 Z p1 h0 n0 v U'.heap L ∧ FrameEnd U o U' L ({ frames := 0, cells := 0, slots := 0, locals := 0 } : Room).cells ({ frames := 0, cells := 0, slots := 0, locals := 0 } : Room).slots) := by
  refine MetFree.of_bodySF (Jvm.Free.JP.mathPlain rfl (by decide +kernel)) hisR ?_
  intro p e s m args below meth c s₁ Bd hml0 hP hK
  obtain ⟨rfl, hZ, hh⟩ := hP
  have hx := Bd.exec
  have hby := Bd.bytes
  have hml : c.maxLocals = 1 := hml0
  have hown : s.vm.findClass "java/lang/Math" = some m.cls := findClass_of_methodNamed Bd.named
  have hnm := (name_of_methodNamed Bd.named Bd.method).1
  have X0 : Stand p l e ({ frames := 0, cells := 0, slots := 0, locals := 0 } : Room) s m #[(.int p1)] below meth c s₁ [] 0 0 := Stand.of_body Bd
  have e0 : s₁.heap = h0 := by rw [← hh, Bd.state]; rfl
  have N0 := Fr.nil n0
  have pre0 : ∀ t, Steps p.tables e below (s₁.setTop (mkF m 0 #[.val (.int p1)] [])) t → Steps p.tables e below (s₁.setTop (entryFrame m #[(.int p1)] 1)) t := fun t k => castTop (ef_4_22 m p1) k
  obtain ⟨fs, hr, hrun, hended, hW, hsame⟩ := X0.leave (v := some (.int p1)) (fun h => by rw [Bd.returns] at h; cases h)
  refine ⟨_, _, pre0 _ ?_, hrun, hended, _, _, rfl, ?_, ⟨_, rfl⟩, hW, hsame.mono (by decide) (by decide)⟩
  · show Steps p.tables e below (s₁.setTop (mkF m 0 #[.val (.int p1)] [])) _
    refine XS.iloadN X0.here hx rfl (hb hby d4_0) rfl ?_
    show Steps p.tables e below (s₁.setTop (mkF m 1 #[.val (.int p1)] [(.int p1)])) _
    refine XS.ifYes X0.here hx rfl (pc0 := 1) (pc' := 9) rfl (hb hby d4_1) rfl ((if0 _ _).trans (flt pr1).2.1) (by decide) (by decide) ?_
    show Steps p.tables e below (s₁.setTop (mkF m 9 #[.val (.int p1)] [])) _
    refine XS.iloadN X0.here hx rfl (hb hby d4_9) rfl ?_
    show Steps p.tables e below (s₁.setTop (mkF m 10 #[.val (.int p1)] [(.int p1)])) _
    exact retI X0 hx Bd.returns (hb hby d4_10) hr
  · show Q_rm4_1 Z p1 h0 n0 _ s₁.heap _
    rw [e0]
    exact ⟨rfl, N0, rfl⟩
def Q_rm2_1 (Z : State) (w1 : Addr) (w2 : Addr) (p3 : Int32) (p5 : Int32) (h0 : Heap) (n0 : Nat) (v : Option Value) (h : Heap) (L : List Loc) : Prop := v = some (.int (p3 - p5)) ∧ Fr n0 L ∧ h = h0
set_option maxRecDepth 65536 in
set_option maxHeartbeats 40000000 in
theorem rm2_1 (l : Launch) (Z : State) (a0 : Array Value) (hw : ∀ d ∈ tables_1, d.before a0 Z = true) (ws : List Jvm.Cond) (w1 : Addr) (w2 : Addr) (p3 : Int32) (p5 : Int32) (h0 : Heap) (n0 : Nat) (OL0 : Old Z n0 h0) (pr1 : Fld Z Z.heap w1 "java/lang/Enum" "ordinal" "I" (.int p3)) (pr2 : Exa Z Z.heap w1 "com/example/facility_atlas/facilityatlas/Rating") (pr3 : Fld Z Z.heap w2 "java/lang/Enum" "ordinal" "I" (.int p5)) (pr4 : Exa Z Z.heap w2 "com/example/facility_atlas/facilityatlas/Rating") (pr5 : ¬ ((p3 - p5) < (0 : Int32))) :
    MetFree l (⟨"com/example/facility_atlas/facilityatlas/Rating", "gradesApart", "(Lcom/example/facility_atlas/facilityatlas/Rating;)I"⟩ : MethodName) (head1 (Jvm.Cond.code (⟨"com/example/facility_atlas/facilityatlas/Rating", "gradesApart", "(Lcom/example/facility_atlas/facilityatlas/Rating;)I"⟩ : MethodName) prog_47_method_6_code 2 (some .int) :: ws) ({ frames := 1, cells := 0, slots := 0, locals := 13 } : Room)) (fun a U => a = #[(.ref w1), (.ref w2)] ∧ Z.Warmed39 U.vm ∧ U.heap = h0) (fun _ _ _ _ _ => True) (fun _ U o U' => ∃ v L, o = .returned v ∧ Q_rm2_1 Z w1 w2 p3 p5 h0 n0 v U'.heap L ∧ FrameEnd U o U' L ({ frames := 1, cells := 0, slots := 0, locals := 13 } : Room).cells ({ frames := 1, cells := 0, slots := 0, locals := 13 } : Room).slots) := by
  refine MetFree.of_bodySF (plainFor_of_name pn_2) hisR ?_
  intro p e s m args below meth c s₁ Bd hml0 hP hK
  obtain ⟨rfl, hZ, hh⟩ := hP
  have hx := Bd.exec
  have hby := Bd.bytes
  have hml : c.maxLocals = 2 := hml0
  have hown : s.vm.findClass "com/example/facility_atlas/facilityatlas/Rating" = some m.cls := findClass_of_methodNamed Bd.named
  have hnm := (name_of_methodNamed Bd.named Bd.method).1
  have X0 : Stand p l e ({ frames := 1, cells := 0, slots := 0, locals := 13 } : Room) s m #[(.ref w1), (.ref w2)] below meth c s₁ [] 0 0 := Stand.of_body Bd
  have e0 : s₁.heap = h0 := by rw [← hh, Bd.state]; rfl
  have N0 := Fr.nil n0
  have pre0 : ∀ t, Steps p.tables e below (s₁.setTop (mkF m 0 #[.val (.ref w1), .val (.ref w2)] [])) t → Steps p.tables e below (s₁.setTop (entryFrame m #[(.ref w1), (.ref w2)] 2)) t := fun t k => castTop (ef_2_23 m w1 w2) k
  obtain ⟨cq4, kq4, q4a, q4b, q4c⟩ := isOf hZ e0 (pr2.ext OL0.2)
  obtain ⟨_, _, ⟨T4, L4, k4, n4⟩, -, X4, ⟨Lc4, hQ4, l4, y4, z4⟩, st4⟩ := X0.virtualBackUp hx (owner := "java/lang/Enum") (x := (⟨"com/example/facility_atlas/facilityatlas/Rating", "ordinal", "()I"⟩ : MethodName)) (y := (⟨"java/lang/Enum", "ordinal", "()I"⟩ : MethodName)) hown (mvT hZ (wd15 hw)) (mvT hZ (wd16 hw)) (mvT hZ (wd17 hw)) (by decide) (mvT hZ (wd19 hw)) (mvT hZ (wd18 hw)) (backOf (W := 0) (rm3_0 l Z a0 hw [] w1 p3 h0 n0 OL0 pr1) hZ (wd21 hw) (wd20 hw) (by decide) (by decide)) q4a q4c (g := (mkF m 1 #[.val (.ref w1), .val (.ref w2)] [(.ref w1)])) rfl (by rw [hml]; rfl) (Steps.refl _) (argsL := []) (rest := []) (lenOf pd_1 rfl) rfl (by show 2 * 0 + _ ≤ _; exact Nat.le_of_eq rfl) (hb hby d2_1) (fun _ _ => ⟨rfl, e0, (by decide : 0 + 0 ≤ _), (by decide : 0 + 0 ≤ _)⟩)
  dsimp only [Pt.U, Pt.locs, Pt.cells, Pt.slots] at X4 l4 y4 z4 st4 hQ4
  subst l4 y4 z4
  obtain ⟨rfl, Nq4, ec4⟩ := hQ4
  have N4 := Fr.app N0 Nq4
  obtain ⟨cq6, kq6, q6a, q6b, q6c⟩ := isOf hZ ec4 (pr4.ext OL0.2)
  obtain ⟨_, _, ⟨T6, L6, k6, n6⟩, -, X6, ⟨Lc6, hQ6, l6, y6, z6⟩, st6⟩ := X4.virtualBackUp hx (owner := "java/lang/Enum") (x := (⟨"com/example/facility_atlas/facilityatlas/Rating", "ordinal", "()I"⟩ : MethodName)) (y := (⟨"java/lang/Enum", "ordinal", "()I"⟩ : MethodName)) hown (mvT hZ (wd15 hw)) (mvT hZ (wd16 hw)) (mvT hZ (wd17 hw)) (by decide) (mvT hZ (wd19 hw)) (mvT hZ (wd18 hw)) (backOf (W := 1) (rm3_0 l Z a0 hw [] w2 p5 h0 n0 OL0 pr3) hZ (wd21 hw) (wd20 hw) (by decide) (by decide)) q6a q6c (g := (mkF m 5 #[.val (.ref w1), .val (.ref w2)] [(.ref w2), (.int p3)])) rfl (by rw [hml]; rfl) (Steps.refl _) (argsL := []) (rest := [(.int p3)]) (lenOf pd_1 rfl) rfl (by show 2 * 0 + _ ≤ _; exact Nat.le_of_eq rfl) (hb hby d2_5) (fun _ _ => ⟨rfl, ec4, (by decide : 0 + 0 ≤ _), (by decide : 0 + 0 ≤ _)⟩)
  dsimp only [Pt.U, Pt.locs, Pt.cells, Pt.slots] at X6 l6 y6 z6 st6 hQ6
  subst l6 y6 z6
  obtain ⟨rfl, Nq6, ec6⟩ := hQ6
  have N6 := Fr.app N4 Nq6
  obtain ⟨_, _, ⟨T7, L7, k7, n7⟩, -, X7, ⟨Lc7, hQ7, l7, y7, z7⟩, st7⟩ := Jvm.LawKit.callS X6 hx (y := (⟨"java/lang/Math", "abs", "(I)I"⟩ : MethodName)) hown (mvT hZ (wd24 hw)) (mvT hZ (wd25 hw)) (mvT hZ (wd26 hw)) (mvT hZ (wd27 hw)) (by decide) (backOf (W := 0) (rm4_1 l Z a0 hw [] (p3 - p5) h0 n0 OL0 pr5) hZ (wd27 hw) (wd26 hw) (by decide) (by decide)) (g := (mkF m 9 #[.val (.ref w1), .val (.ref w2)] [(.int (p3 - p5))])) rfl (by rw [hml]; rfl) (argsL := [(.int (p3 - p5))]) (rest := []) (lenOf pd_2 rfl) rfl (by show 2 * 0 + _ ≤ _; exact Nat.le_of_eq rfl) (hb hby d2_9) (fun _ _ => ⟨rfl, ec6, (by decide : 0 + 0 ≤ _), (by decide : 0 + 0 ≤ _)⟩)
  dsimp only [Pt.U, Pt.locs, Pt.cells, Pt.slots] at X7 l7 y7 z7 st7 hQ7
  subst l7 y7 z7
  obtain ⟨rfl, Nq7, ec7⟩ := hQ7
  have N7 := Fr.app N6 Nq7
  obtain ⟨fs, hr, hrun, hended, hW, hsame⟩ := X7.leave (v := some (.int (p3 - p5))) (fun h => by rw [Bd.returns] at h; cases h)
  refine ⟨_, _, pre0 _ ?_, hrun, hended, _, _, rfl, ?_, ⟨_, rfl⟩, hW, hsame.mono (by decide) (by decide)⟩
  · show Steps p.tables e below (s₁.setTop (mkF m 0 #[.val (.ref w1), .val (.ref w2)] [])) _
    refine XS.aloadN X0.here hx rfl (hb hby d2_0) rfl rfl ?_
    show Steps p.tables e below (s₁.setTop (mkF m 1 #[.val (.ref w1), .val (.ref w2)] [(.ref w1)])) _
    refine st4.trans ?_
    show Steps p.tables e below (T4.setTop (mkF m 4 #[.val (.ref w1), .val (.ref w2)] [(.int p3)])) _
    refine XS.aloadN X4.here hx rfl (hb hby d2_4) rfl rfl ?_
    show Steps p.tables e below (T4.setTop (mkF m 5 #[.val (.ref w1), .val (.ref w2)] [(.ref w2), (.int p3)])) _
    refine st6.trans ?_
    show Steps p.tables e below (T6.setTop (mkF m 8 #[.val (.ref w1), .val (.ref w2)] [(.int p5), (.int p3)])) _
    refine XS.isub X6.here hx rfl (hb hby d2_8) rfl ?_
    show Steps p.tables e below (T6.setTop (mkF m 9 #[.val (.ref w1), .val (.ref w2)] [(.int (p3 - p5))])) _
    refine st7 _ ?_
    show Steps p.tables e below (T7.setTop (mkF m 12 #[.val (.ref w1), .val (.ref w2)] [(.int (p3 - p5))])) _
    exact retI X7 hx Bd.returns (hb hby d2_12) hr
  · show Q_rm2_1 Z w1 w2 p3 p5 h0 n0 _ T7.heap _
    rw [ec7]
    exact ⟨rfl, N7, rfl⟩
set_option maxRecDepth 65536 in
set_option maxHeartbeats 40000000 in
theorem rm0_ge (l : Launch) (Z : State) (a0 : Array Value) (hw : ∀ d ∈ tables_1, d.before a0 Z = true) (ws : List Jvm.Cond) (p1 : Int32) (p2 : Int32) (v1 : Addr) (v2 : Addr) (h0 : Heap) (n0 : Nat) (OL0 : Old Z n0 h0) (pr1 : SelG Z ((p1 &&& (2147483647 : Int32)) % (21 : Int32)) v1) (pr2 : SelG Z ((p2 &&& (2147483647 : Int32)) % (21 : Int32)) v2) (pr3 : ¬ (((p1 &&& (2147483647 : Int32)) % (21 : Int32)) < ((p2 &&& (2147483647 : Int32)) % (21 : Int32)))) (pr4 : Fld Z Z.heap v1 "java/lang/Enum" "ordinal" "I" (.int ((p1 &&& (2147483647 : Int32)) % (21 : Int32)))) (pr5 : Exa Z Z.heap v1 "com/example/facility_atlas/facilityatlas/Rating") (pr6 : Fld Z Z.heap v2 "java/lang/Enum" "ordinal" "I" (.int ((p2 &&& (2147483647 : Int32)) % (21 : Int32)))) (pr7 : Exa Z Z.heap v2 "com/example/facility_atlas/facilityatlas/Rating") (pr8 : ¬ ((((p1 &&& (2147483647 : Int32)) % (21 : Int32)) - ((p2 &&& (2147483647 : Int32)) % (21 : Int32))) < (0 : Int32))) :
    MetFree l x (head1 (Jvm.Cond.code x code maxLocals ret :: ws) room_1) (fun a U => a = #[(.int p1), (.int p2)] ∧ Z.Warmed39 U.vm ∧ U.heap = h0) (fun _ _ _ _ _ => True) (fun _ U o U' => ∃ v L, o = .returned v ∧ Q0 n0 v L ∧ FrameEnd U o U' L 0 0) := by
  refine MetFree.of_bodySF (plainFor_of_name pn_0) hisR ?_
  intro p e s m args below meth c s₁ Bd hml0 hP hK
  obtain ⟨rfl, hZ, hh⟩ := hP
  have hx := Bd.exec
  have hby := Bd.bytes
  have hml : c.maxLocals = 7 := hml0
  have hown : s.vm.findClass "com/example/facility_atlas/facilityatlas/RatingGradesApartPinLaw" = some m.cls := findClass_of_methodNamed Bd.named
  have hnm := (name_of_methodNamed Bd.named Bd.method).1
  have X0 : Stand p l e room_1 s m #[(.int p1), (.int p2)] below meth c s₁ [] 0 0 := Stand.of_body Bd
  have e0 : s₁.heap = h0 := by rw [← hh, Bd.state]; rfl
  have N0 := Fr.nil n0
  have pre0 : ∀ t, Steps p.tables e below (s₁.setTop (mkF m 0 #[.val (.int p1), .val (.int p2), .unset, .unset, .unset, .unset, .unset] [])) t → Steps p.tables e below (s₁.setTop (entryFrame m #[(.int p1), (.int p2)] maxLocals)) t := fun t k => castTop (ef_0_24 m p1 p2) k
  obtain ⟨_, _, ⟨T1, L1, k1, n1⟩, -, X1, ⟨Lc1, hQ1, l1, y1, z1⟩, st1⟩ := Jvm.LawKit.callS X0 hx (y := (⟨"com/example/facility_atlas/facilityatlas/RatingGradesApartPinLaw", "grade", "(I)Lcom/example/facility_atlas/facilityatlas/Rating;"⟩ : MethodName)) hown (mvT hZ (wd1 hw)) (mvT hZ (wd2 hw)) (mvT hZ (wd3 hw)) (mvT hZ (wd4 hw)) (by decide) (backOf (W := 0) (gr_any l Z a0 hw [] ((p1 &&& (2147483647 : Int32)) % (21 : Int32)) v1 h0 n0 OL0 pr1) hZ (wd4 hw) (wd3 hw) (by decide) (by decide)) (g := (mkF m 17 #[.val (.int p1), .val (.int p2), .val (.int ((p1 &&& (2147483647 : Int32)) % (21 : Int32))), .val (.int ((p2 &&& (2147483647 : Int32)) % (21 : Int32))), .unset, .unset, .unset] [(.int ((p1 &&& (2147483647 : Int32)) % (21 : Int32)))])) rfl (by rw [hml]; rfl) (argsL := [(.int ((p1 &&& (2147483647 : Int32)) % (21 : Int32)))]) (rest := []) (lenOf pd_0 rfl) rfl (by show 2 * 0 + _ ≤ _; exact Nat.le_of_eq rfl) (hb hby at_17) (fun _ _ => ⟨rfl, e0, (by decide : 0 + 0 ≤ _), (by decide : 0 + 0 ≤ _)⟩)
  dsimp only [Pt.U, Pt.locs, Pt.cells, Pt.slots] at X1 l1 y1 z1 st1 hQ1
  subst l1 y1 z1
  obtain ⟨rfl, Nq1, ec1⟩ := hQ1
  have N1 := Fr.app N0 Nq1
  obtain ⟨_, _, ⟨T2, L2, k2, n2⟩, -, X2, ⟨Lc2, hQ2, l2, y2, z2⟩, st2⟩ := Jvm.LawKit.callS X1 hx (y := (⟨"com/example/facility_atlas/facilityatlas/RatingGradesApartPinLaw", "grade", "(I)Lcom/example/facility_atlas/facilityatlas/Rating;"⟩ : MethodName)) hown (mvT hZ (wd1 hw)) (mvT hZ (wd2 hw)) (mvT hZ (wd3 hw)) (mvT hZ (wd4 hw)) (by decide) (backOf (W := 0) (gr_any l Z a0 hw [] ((p2 &&& (2147483647 : Int32)) % (21 : Int32)) v2 h0 n0 OL0 pr2) hZ (wd4 hw) (wd3 hw) (by decide) (by decide)) (g := (mkF m 23 #[.val (.int p1), .val (.int p2), .val (.int ((p1 &&& (2147483647 : Int32)) % (21 : Int32))), .val (.int ((p2 &&& (2147483647 : Int32)) % (21 : Int32))), .val (.ref v1), .unset, .unset] [(.int ((p2 &&& (2147483647 : Int32)) % (21 : Int32)))])) rfl (by rw [hml]; rfl) (argsL := [(.int ((p2 &&& (2147483647 : Int32)) % (21 : Int32)))]) (rest := []) (lenOf pd_0 rfl) rfl (by show 2 * 0 + _ ≤ _; exact Nat.le_of_eq rfl) (hb hby at_23) (fun _ _ => ⟨rfl, ec1, (by decide : 0 + 0 ≤ _), (by decide : 0 + 0 ≤ _)⟩)
  dsimp only [Pt.U, Pt.locs, Pt.cells, Pt.slots] at X2 l2 y2 z2 st2 hQ2
  subst l2 y2 z2
  obtain ⟨rfl, Nq2, ec2⟩ := hQ2
  have N2 := Fr.app N1 Nq2
  obtain ⟨cq3, kq3, q3a, q3b, q3c⟩ := isOf hZ ec2 (pr5.ext OL0.2)
  obtain ⟨_, _, ⟨T3, L3, k3, n3⟩, -, X3, ⟨Lc3, hQ3, l3, y3, z3⟩, st3⟩ := X2.virtualBack hx (y := (⟨"com/example/facility_atlas/facilityatlas/Rating", "gradesApart", "(Lcom/example/facility_atlas/facilityatlas/Rating;)I"⟩ : MethodName)) (z := (⟨"com/example/facility_atlas/facilityatlas/Rating", "gradesApart", "(Lcom/example/facility_atlas/facilityatlas/Rating;)I"⟩ : MethodName)) hown (mvT hZ (wd10 hw)) (mvT hZ (wd11 hw)) (notFace_of_selects (args := #[]) (mvT hZ (wd13 hw))) (mvT hZ (wd13 hw)) (mvT hZ (wd12 hw)) (by decide) (backOf (W := 0) (rm2_1 l Z a0 hw [] v1 v2 ((p1 &&& (2147483647 : Int32)) % (21 : Int32)) ((p2 &&& (2147483647 : Int32)) % (21 : Int32)) h0 n0 OL0 pr4 pr5 pr6 pr7 pr8) hZ (wd14 hw) (wd6 hw) (by decide) (by decide)) q3a q3c (g := (mkF m 48 #[.val (.int p1), .val (.int p2), .val (.int ((p1 &&& (2147483647 : Int32)) % (21 : Int32))), .val (.int ((p2 &&& (2147483647 : Int32)) % (21 : Int32))), .val (.ref v1), .val (.ref v2), .val (.int (((p1 &&& (2147483647 : Int32)) % (21 : Int32)) - ((p2 &&& (2147483647 : Int32)) % (21 : Int32))))] [(.ref v2), (.ref v1)])) rfl (by rw [hml]; rfl) (Steps.refl _) (argsL := [(.ref v2)]) (rest := []) (lenOf pd_3 rfl) rfl (by show 2 * 0 + _ ≤ _; exact Nat.le_of_eq rfl) (hb hby at_48) (fun _ _ => ⟨rfl, ec2, (by decide : 0 + 0 ≤ _), (by decide : 0 + 0 ≤ _)⟩)
  dsimp only [Pt.U, Pt.locs, Pt.cells, Pt.slots] at X3 l3 y3 z3 st3 hQ3
  subst l3 y3 z3
  obtain ⟨rfl, Nq3, ec3⟩ := hQ3
  have N3 := Fr.app N2 Nq3
  obtain ⟨fs, hr, hrun, hended, hW, hsame⟩ := X3.leave (v := some (.int (1 : Int32))) (fun h => by rw [Bd.returns] at h; cases h)
  refine ⟨_, _, pre0 _ ?_, hrun, hended, _, _, rfl, ?_, ⟨_, rfl⟩, hW, hsame.mono (by decide) (by decide)⟩
  · show Steps p.tables e below (s₁.setTop (mkF m 0 #[.val (.int p1), .val (.int p2), .unset, .unset, .unset, .unset, .unset] [])) _
    refine XS.iloadN X0.here hx rfl (hb hby at_0) rfl ?_
    show Steps p.tables e below (s₁.setTop (mkF m 1 #[.val (.int p1), .val (.int p2), .unset, .unset, .unset, .unset, .unset] [(.int p1)])) _
    refine X0.ldcInt hx hown (mvT hZ (wd0 hw)) (g := (mkF m 1 #[.val (.int p1), .val (.int p2), .unset, .unset, .unset, .unset, .unset] [(.int p1)])) rfl (hb hby at_1) _ ?_
    show Steps p.tables e below (s₁.setTop (mkF m 3 #[.val (.int p1), .val (.int p2), .unset, .unset, .unset, .unset, .unset] [(.int (2147483647 : Int32)), (.int p1)])) _
    refine XS.iand X0.here hx rfl (hb hby at_3) rfl ?_
    show Steps p.tables e below (s₁.setTop (mkF m 4 #[.val (.int p1), .val (.int p2), .unset, .unset, .unset, .unset, .unset] [(.int (p1 &&& (2147483647 : Int32)))])) _
    refine XS.bipush X0.here hx rfl (hb hby at_4) ?_
    show Steps p.tables e below (s₁.setTop (mkF m 6 #[.val (.int p1), .val (.int p2), .unset, .unset, .unset, .unset, .unset] [(.int (21 : Int32)), (.int (p1 &&& (2147483647 : Int32)))])) _
    refine iremM X0 hx rfl (hb hby at_6) rfl (by decide) ?_
    show Steps p.tables e below (s₁.setTop (mkF m 7 #[.val (.int p1), .val (.int p2), .unset, .unset, .unset, .unset, .unset] [(.int ((p1 &&& (2147483647 : Int32)) % (21 : Int32)))])) _
    refine XS.istoreN X0.here hx rfl (hb hby at_7) rfl (l' := #[.val (.int p1), .val (.int p2), .val (.int ((p1 &&& (2147483647 : Int32)) % (21 : Int32))), .unset, .unset, .unset, .unset]) rfl ?_
    show Steps p.tables e below (s₁.setTop (mkF m 8 #[.val (.int p1), .val (.int p2), .val (.int ((p1 &&& (2147483647 : Int32)) % (21 : Int32))), .unset, .unset, .unset, .unset] [])) _
    refine XS.iloadN X0.here hx rfl (hb hby at_8) rfl ?_
    show Steps p.tables e below (s₁.setTop (mkF m 9 #[.val (.int p1), .val (.int p2), .val (.int ((p1 &&& (2147483647 : Int32)) % (21 : Int32))), .unset, .unset, .unset, .unset] [(.int p2)])) _
    refine X0.ldcInt hx hown (mvT hZ (wd0 hw)) (g := (mkF m 9 #[.val (.int p1), .val (.int p2), .val (.int ((p1 &&& (2147483647 : Int32)) % (21 : Int32))), .unset, .unset, .unset, .unset] [(.int p2)])) rfl (hb hby at_9) _ ?_
    show Steps p.tables e below (s₁.setTop (mkF m 11 #[.val (.int p1), .val (.int p2), .val (.int ((p1 &&& (2147483647 : Int32)) % (21 : Int32))), .unset, .unset, .unset, .unset] [(.int (2147483647 : Int32)), (.int p2)])) _
    refine XS.iand X0.here hx rfl (hb hby at_11) rfl ?_
    show Steps p.tables e below (s₁.setTop (mkF m 12 #[.val (.int p1), .val (.int p2), .val (.int ((p1 &&& (2147483647 : Int32)) % (21 : Int32))), .unset, .unset, .unset, .unset] [(.int (p2 &&& (2147483647 : Int32)))])) _
    refine XS.bipush X0.here hx rfl (hb hby at_12) ?_
    show Steps p.tables e below (s₁.setTop (mkF m 14 #[.val (.int p1), .val (.int p2), .val (.int ((p1 &&& (2147483647 : Int32)) % (21 : Int32))), .unset, .unset, .unset, .unset] [(.int (21 : Int32)), (.int (p2 &&& (2147483647 : Int32)))])) _
    refine iremM X0 hx rfl (hb hby at_14) rfl (by decide) ?_
    show Steps p.tables e below (s₁.setTop (mkF m 15 #[.val (.int p1), .val (.int p2), .val (.int ((p1 &&& (2147483647 : Int32)) % (21 : Int32))), .unset, .unset, .unset, .unset] [(.int ((p2 &&& (2147483647 : Int32)) % (21 : Int32)))])) _
    refine XS.istoreN X0.here hx rfl (hb hby at_15) rfl (l' := #[.val (.int p1), .val (.int p2), .val (.int ((p1 &&& (2147483647 : Int32)) % (21 : Int32))), .val (.int ((p2 &&& (2147483647 : Int32)) % (21 : Int32))), .unset, .unset, .unset]) rfl ?_
    show Steps p.tables e below (s₁.setTop (mkF m 16 #[.val (.int p1), .val (.int p2), .val (.int ((p1 &&& (2147483647 : Int32)) % (21 : Int32))), .val (.int ((p2 &&& (2147483647 : Int32)) % (21 : Int32))), .unset, .unset, .unset] [])) _
    refine XS.iloadN X0.here hx rfl (hb hby at_16) rfl ?_
    show Steps p.tables e below (s₁.setTop (mkF m 17 #[.val (.int p1), .val (.int p2), .val (.int ((p1 &&& (2147483647 : Int32)) % (21 : Int32))), .val (.int ((p2 &&& (2147483647 : Int32)) % (21 : Int32))), .unset, .unset, .unset] [(.int ((p1 &&& (2147483647 : Int32)) % (21 : Int32)))])) _
    refine st1 _ ?_
    show Steps p.tables e below (T1.setTop (mkF m 20 #[.val (.int p1), .val (.int p2), .val (.int ((p1 &&& (2147483647 : Int32)) % (21 : Int32))), .val (.int ((p2 &&& (2147483647 : Int32)) % (21 : Int32))), .unset, .unset, .unset] [(.ref v1)])) _
    refine XS.astore X1.here hx rfl (hb hby at_20) rfl rfl (l' := #[.val (.int p1), .val (.int p2), .val (.int ((p1 &&& (2147483647 : Int32)) % (21 : Int32))), .val (.int ((p2 &&& (2147483647 : Int32)) % (21 : Int32))), .val (.ref v1), .unset, .unset]) rfl ?_
    show Steps p.tables e below (T1.setTop (mkF m 22 #[.val (.int p1), .val (.int p2), .val (.int ((p1 &&& (2147483647 : Int32)) % (21 : Int32))), .val (.int ((p2 &&& (2147483647 : Int32)) % (21 : Int32))), .val (.ref v1), .unset, .unset] [])) _
    refine XS.iloadN X1.here hx rfl (hb hby at_22) rfl ?_
    show Steps p.tables e below (T1.setTop (mkF m 23 #[.val (.int p1), .val (.int p2), .val (.int ((p1 &&& (2147483647 : Int32)) % (21 : Int32))), .val (.int ((p2 &&& (2147483647 : Int32)) % (21 : Int32))), .val (.ref v1), .unset, .unset] [(.int ((p2 &&& (2147483647 : Int32)) % (21 : Int32)))])) _
    refine st2 _ ?_
    show Steps p.tables e below (T2.setTop (mkF m 26 #[.val (.int p1), .val (.int p2), .val (.int ((p1 &&& (2147483647 : Int32)) % (21 : Int32))), .val (.int ((p2 &&& (2147483647 : Int32)) % (21 : Int32))), .val (.ref v1), .unset, .unset] [(.ref v2)])) _
    refine XS.astore X2.here hx rfl (hb hby at_26) rfl rfl (l' := #[.val (.int p1), .val (.int p2), .val (.int ((p1 &&& (2147483647 : Int32)) % (21 : Int32))), .val (.int ((p2 &&& (2147483647 : Int32)) % (21 : Int32))), .val (.ref v1), .val (.ref v2), .unset]) rfl ?_
    show Steps p.tables e below (T2.setTop (mkF m 28 #[.val (.int p1), .val (.int p2), .val (.int ((p1 &&& (2147483647 : Int32)) % (21 : Int32))), .val (.int ((p2 &&& (2147483647 : Int32)) % (21 : Int32))), .val (.ref v1), .val (.ref v2), .unset] [])) _
    refine XS.iloadN X2.here hx rfl (hb hby at_28) rfl ?_
    show Steps p.tables e below (T2.setTop (mkF m 29 #[.val (.int p1), .val (.int p2), .val (.int ((p1 &&& (2147483647 : Int32)) % (21 : Int32))), .val (.int ((p2 &&& (2147483647 : Int32)) % (21 : Int32))), .val (.ref v1), .val (.ref v2), .unset] [(.int ((p1 &&& (2147483647 : Int32)) % (21 : Int32)))])) _
    refine XS.iloadN X2.here hx rfl (hb hby at_29) rfl ?_
    show Steps p.tables e below (T2.setTop (mkF m 30 #[.val (.int p1), .val (.int p2), .val (.int ((p1 &&& (2147483647 : Int32)) % (21 : Int32))), .val (.int ((p2 &&& (2147483647 : Int32)) % (21 : Int32))), .val (.ref v1), .val (.ref v2), .unset] [(.int ((p2 &&& (2147483647 : Int32)) % (21 : Int32))), (.int ((p1 &&& (2147483647 : Int32)) % (21 : Int32)))])) _
    refine XS.icmpNo X2.here hx rfl (hb hby at_30) rfl (flt pr3).1 ?_
    show Steps p.tables e below (T2.setTop (mkF m 33 #[.val (.int p1), .val (.int p2), .val (.int ((p1 &&& (2147483647 : Int32)) % (21 : Int32))), .val (.int ((p2 &&& (2147483647 : Int32)) % (21 : Int32))), .val (.ref v1), .val (.ref v2), .unset] [])) _
    refine XS.iloadN X2.here hx rfl (hb hby at_33) rfl ?_
    show Steps p.tables e below (T2.setTop (mkF m 34 #[.val (.int p1), .val (.int p2), .val (.int ((p1 &&& (2147483647 : Int32)) % (21 : Int32))), .val (.int ((p2 &&& (2147483647 : Int32)) % (21 : Int32))), .val (.ref v1), .val (.ref v2), .unset] [(.int ((p1 &&& (2147483647 : Int32)) % (21 : Int32)))])) _
    refine XS.iloadN X2.here hx rfl (hb hby at_34) rfl ?_
    show Steps p.tables e below (T2.setTop (mkF m 35 #[.val (.int p1), .val (.int p2), .val (.int ((p1 &&& (2147483647 : Int32)) % (21 : Int32))), .val (.int ((p2 &&& (2147483647 : Int32)) % (21 : Int32))), .val (.ref v1), .val (.ref v2), .unset] [(.int ((p2 &&& (2147483647 : Int32)) % (21 : Int32))), (.int ((p1 &&& (2147483647 : Int32)) % (21 : Int32)))])) _
    refine XS.isub X2.here hx rfl (hb hby at_35) rfl ?_
    show Steps p.tables e below (T2.setTop (mkF m 36 #[.val (.int p1), .val (.int p2), .val (.int ((p1 &&& (2147483647 : Int32)) % (21 : Int32))), .val (.int ((p2 &&& (2147483647 : Int32)) % (21 : Int32))), .val (.ref v1), .val (.ref v2), .unset] [(.int (((p1 &&& (2147483647 : Int32)) % (21 : Int32)) - ((p2 &&& (2147483647 : Int32)) % (21 : Int32))))])) _
    refine XS.goto X2.here hx rfl (pc0 := 36) (pc' := 42) rfl (hb hby at_36) (by decide) (by decide) ?_
    show Steps p.tables e below (T2.setTop (mkF m 42 #[.val (.int p1), .val (.int p2), .val (.int ((p1 &&& (2147483647 : Int32)) % (21 : Int32))), .val (.int ((p2 &&& (2147483647 : Int32)) % (21 : Int32))), .val (.ref v1), .val (.ref v2), .unset] [(.int (((p1 &&& (2147483647 : Int32)) % (21 : Int32)) - ((p2 &&& (2147483647 : Int32)) % (21 : Int32))))])) _
    refine XS.istore X2.here hx rfl (hb hby at_42) rfl (l' := #[.val (.int p1), .val (.int p2), .val (.int ((p1 &&& (2147483647 : Int32)) % (21 : Int32))), .val (.int ((p2 &&& (2147483647 : Int32)) % (21 : Int32))), .val (.ref v1), .val (.ref v2), .val (.int (((p1 &&& (2147483647 : Int32)) % (21 : Int32)) - ((p2 &&& (2147483647 : Int32)) % (21 : Int32))))]) rfl ?_
    show Steps p.tables e below (T2.setTop (mkF m 44 #[.val (.int p1), .val (.int p2), .val (.int ((p1 &&& (2147483647 : Int32)) % (21 : Int32))), .val (.int ((p2 &&& (2147483647 : Int32)) % (21 : Int32))), .val (.ref v1), .val (.ref v2), .val (.int (((p1 &&& (2147483647 : Int32)) % (21 : Int32)) - ((p2 &&& (2147483647 : Int32)) % (21 : Int32))))] [])) _
    refine XS.aload X2.here hx rfl (hb hby at_44) rfl rfl ?_
    show Steps p.tables e below (T2.setTop (mkF m 46 #[.val (.int p1), .val (.int p2), .val (.int ((p1 &&& (2147483647 : Int32)) % (21 : Int32))), .val (.int ((p2 &&& (2147483647 : Int32)) % (21 : Int32))), .val (.ref v1), .val (.ref v2), .val (.int (((p1 &&& (2147483647 : Int32)) % (21 : Int32)) - ((p2 &&& (2147483647 : Int32)) % (21 : Int32))))] [(.ref v1)])) _
    refine XS.aload X2.here hx rfl (hb hby at_46) rfl rfl ?_
    show Steps p.tables e below (T2.setTop (mkF m 48 #[.val (.int p1), .val (.int p2), .val (.int ((p1 &&& (2147483647 : Int32)) % (21 : Int32))), .val (.int ((p2 &&& (2147483647 : Int32)) % (21 : Int32))), .val (.ref v1), .val (.ref v2), .val (.int (((p1 &&& (2147483647 : Int32)) % (21 : Int32)) - ((p2 &&& (2147483647 : Int32)) % (21 : Int32))))] [(.ref v2), (.ref v1)])) _
    refine st3.trans ?_
    show Steps p.tables e below (T3.setTop (mkF m 51 #[.val (.int p1), .val (.int p2), .val (.int ((p1 &&& (2147483647 : Int32)) % (21 : Int32))), .val (.int ((p2 &&& (2147483647 : Int32)) % (21 : Int32))), .val (.ref v1), .val (.ref v2), .val (.int (((p1 &&& (2147483647 : Int32)) % (21 : Int32)) - ((p2 &&& (2147483647 : Int32)) % (21 : Int32))))] [(.int (((p1 &&& (2147483647 : Int32)) % (21 : Int32)) - ((p2 &&& (2147483647 : Int32)) % (21 : Int32))))])) _
    refine XS.iload X3.here hx rfl (hb hby at_51) rfl ?_
    show Steps p.tables e below (T3.setTop (mkF m 53 #[.val (.int p1), .val (.int p2), .val (.int ((p1 &&& (2147483647 : Int32)) % (21 : Int32))), .val (.int ((p2 &&& (2147483647 : Int32)) % (21 : Int32))), .val (.ref v1), .val (.ref v2), .val (.int (((p1 &&& (2147483647 : Int32)) % (21 : Int32)) - ((p2 &&& (2147483647 : Int32)) % (21 : Int32))))] [(.int (((p1 &&& (2147483647 : Int32)) % (21 : Int32)) - ((p2 &&& (2147483647 : Int32)) % (21 : Int32)))), (.int (((p1 &&& (2147483647 : Int32)) % (21 : Int32)) - ((p2 &&& (2147483647 : Int32)) % (21 : Int32))))])) _
    refine XS.icmpNo X3.here hx rfl (hb hby at_53) rfl (teq (rfl : (((p1 &&& (2147483647 : Int32)) % (21 : Int32)) - ((p2 &&& (2147483647 : Int32)) % (21 : Int32))) = (((p1 &&& (2147483647 : Int32)) % (21 : Int32)) - ((p2 &&& (2147483647 : Int32)) % (21 : Int32))))).2 ?_
    show Steps p.tables e below (T3.setTop (mkF m 56 #[.val (.int p1), .val (.int p2), .val (.int ((p1 &&& (2147483647 : Int32)) % (21 : Int32))), .val (.int ((p2 &&& (2147483647 : Int32)) % (21 : Int32))), .val (.ref v1), .val (.ref v2), .val (.int (((p1 &&& (2147483647 : Int32)) % (21 : Int32)) - ((p2 &&& (2147483647 : Int32)) % (21 : Int32))))] [])) _
    refine XS.iconst X3.here hx rfl (hb hby at_56) ?_
    show Steps p.tables e below (T3.setTop (mkF m 57 #[.val (.int p1), .val (.int p2), .val (.int ((p1 &&& (2147483647 : Int32)) % (21 : Int32))), .val (.int ((p2 &&& (2147483647 : Int32)) % (21 : Int32))), .val (.ref v1), .val (.ref v2), .val (.int (((p1 &&& (2147483647 : Int32)) % (21 : Int32)) - ((p2 &&& (2147483647 : Int32)) % (21 : Int32))))] [(.int (1 : Int32))])) _
    refine XS.goto X3.here hx rfl (pc0 := 57) (pc' := 61) rfl (hb hby at_57) (by decide) (by decide) ?_
    show Steps p.tables e below (T3.setTop (mkF m 61 #[.val (.int p1), .val (.int p2), .val (.int ((p1 &&& (2147483647 : Int32)) % (21 : Int32))), .val (.int ((p2 &&& (2147483647 : Int32)) % (21 : Int32))), .val (.ref v1), .val (.ref v2), .val (.int (((p1 &&& (2147483647 : Int32)) % (21 : Int32)) - ((p2 &&& (2147483647 : Int32)) % (21 : Int32))))] [(.int (1 : Int32))])) _
    exact retN X3 hx (t := .boolean) Bd.returns (by simp) (hb hby at_61) hr
  · exact ⟨rfl, N3⟩
set_option maxRecDepth 65536 in
set_option maxHeartbeats 40000000 in
theorem comes_1 {Post : Tables → Env → Array Value → State → Outcome → State → Prop} (hpost : ∀ tb e args s v u, (limb_1_1.after args s (.returned v) u = true ∧ limb_1_2.after args s (.returned v) u = true ∧ True) → FrameEnd s (.returned v) u (Jvm.fieldLocs frame_1_writes args s ++ Jvm.arrayLocs frame_1_arrays args s ++ Jvm.staticLocs frame_1_statics s) 0 0 → Post tb e args s (.returned v) u) :
    ArmFor flags0 classFile x code maxLocals ret World_1 tables_1 room_1 Calls_1 rest_1 Pre_1 Post := by
  intro l hfl _ _ p e ha hc hk s m args below hf hA hF happ hP
  obtain ⟨hcalls, hrest, hpre⟩ := hP
  obtain ⟨-, -, -, hnamed, -, -, -, hat⟩ := (Spec.applies_iff hf).mp happ
  obtain ⟨hg, hn⟩ := and_e (Cond.before_iff.mp (show (Jvm.Cond.and given_1 narrow_1).before args s = true from hpre))
  obtain ⟨g146, g147⟩ := and_e hg
  obtain ⟨g148, g149⟩ := and_e g147
  obtain ⟨w0, w1, rfl⟩ : ∃ w0 w1 : Value, args = #[w0, w1] := by
    have hs : args.size = 2 := by simpa [Cond.value, given_1] using g146
    obtain ⟨L⟩ := args
    match L, hs with
    | [w0, w1], _ => exact ⟨w0, w1, rfl⟩
  have hw := fun d (hd : d ∈ tables_1) => atoms_spec (ws := Jvm.Cond.code x code maxLocals ret :: tables_1) hat d (List.mem_cons_of_mem _ hd)
  have hfit : Fit s := fun {y c} hc i hi => by
    obtain ⟨ha, rfl⟩ := Array.getElem?_eq_some_iff.mp hc
    have q := List.all_eq_true.mp ((Array.all_eq_true_iff_forall_mem.mp hF) _ (Array.getElem_mem ha)) i (List.mem_range.mpr hi)
    simpa [Array.getElem?_eq_getElem hi] using q
  obtain ⟨i0, ei0⟩ := is_v g148
  obtain rfl : w0 = (.int i0) := Option.some.inj ei0
  obtain ⟨i1, ei1⟩ := is_v g149
  obtain rfl : w1 = (.int i1) := Option.some.inj ei1
  obtain ⟨n1, n2⟩ := and_e hn
  obtain ⟨n3, n4⟩ := and_e n2
  obtain ⟨n5, n6⟩ := and_e n4
  obtain ⟨n7, n8⟩ := and_e n6
  obtain ⟨n9, n10⟩ := and_e n8
  obtain ⟨n11, n12⟩ := and_e n10
  obtain ⟨n13, n14⟩ := and_e n12
  obtain ⟨n15, n16⟩ := and_e n14
  obtain ⟨n17, n18⟩ := and_e n16
  obtain ⟨n19, n20⟩ := and_e n18
  obtain ⟨n21, n22⟩ := and_e n20
  obtain ⟨n23, n24⟩ := and_e n22
  obtain ⟨n25, n26⟩ := and_e n24
  obtain ⟨n27, n28⟩ := and_e n26
  obtain ⟨n29, n30⟩ := and_e n28
  obtain ⟨n31, n32⟩ := and_e n30
  obtain ⟨n33, n34⟩ := and_e n32
  obtain ⟨n35, n36⟩ := and_e n34
  obtain ⟨n37, n38⟩ := and_e n36
  obtain ⟨n39, n40⟩ := and_e n38
  obtain ⟨n41, n42⟩ := and_e n40
  obtain ⟨n43, n44⟩ := and_e n42
  obtain ⟨n45, n46⟩ := and_e n44
  obtain ⟨n47, n48⟩ := and_e n46
  obtain ⟨n49, n50⟩ := and_e n48
  obtain ⟨n51, n52⟩ := and_e n50
  obtain ⟨n53, n54⟩ := and_e n52
  obtain ⟨n55, n56⟩ := and_e n54
  obtain ⟨n57, n58⟩ := and_e n56
  obtain ⟨n59, n60⟩ := and_e n58
  obtain ⟨n61, n62⟩ := and_e n60
  obtain ⟨n63, n64⟩ := and_e n62
  obtain ⟨n65, n66⟩ := and_e n64
  obtain ⟨n67, n68⟩ := and_e n66
  obtain ⟨n69, n70⟩ := and_e n68
  obtain ⟨n71, n72⟩ := and_e n70
  obtain ⟨n73, n74⟩ := and_e n72
  obtain ⟨n75, n76⟩ := and_e n74
  obtain ⟨n77, n78⟩ := and_e n76
  obtain ⟨n79, n80⟩ := and_e n78
  obtain ⟨n81, n82⟩ := and_e n80
  obtain ⟨w_AAA, ev83⟩ := exa_v n1
  have S_Rating_AAA : Sta s s.heap "com/example/facility_atlas/facilityatlas/Rating" "AAA" "Lcom/example/facility_atlas/facilityatlas/Rating;" (.ref w_AAA) := Sta.start ev83 (Or.inr ⟨(wd6 hw), (wd7 hw)⟩)
  have E_w_AAA : Exa s s.heap w_AAA "com/example/facility_atlas/facilityatlas/Rating" := Exa.start ev83 n1
  obtain ⟨w_AA_MINUS, ev84⟩ := exa_v n3
  have S_Rating_AA_MINUS : Sta s s.heap "com/example/facility_atlas/facilityatlas/Rating" "AA_MINUS" "Lcom/example/facility_atlas/facilityatlas/Rating;" (.ref w_AA_MINUS) := Sta.start ev84 (Or.inr ⟨(wd6 hw), (wd9 hw)⟩)
  have E_w_AA_MINUS : Exa s s.heap w_AA_MINUS "com/example/facility_atlas/facilityatlas/Rating" := Exa.start ev84 n3
  obtain ⟨w_B, ev85⟩ := exa_v n9
  have S_Rating_B : Sta s s.heap "com/example/facility_atlas/facilityatlas/Rating" "B" "Lcom/example/facility_atlas/facilityatlas/Rating;" (.ref w_B) := Sta.start ev85 (Or.inr ⟨(wd6 hw), (wd29 hw)⟩)
  have E_w_B : Exa s s.heap w_B "com/example/facility_atlas/facilityatlas/Rating" := Exa.start ev85 n9
  obtain ⟨w_AA_PLUS, ev86⟩ := exa_v n11
  have S_Rating_AA_PLUS : Sta s s.heap "com/example/facility_atlas/facilityatlas/Rating" "AA_PLUS" "Lcom/example/facility_atlas/facilityatlas/Rating;" (.ref w_AA_PLUS) := Sta.start ev86 (Or.inr ⟨(wd6 hw), (wd31 hw)⟩)
  have E_w_AA_PLUS : Exa s s.heap w_AA_PLUS "com/example/facility_atlas/facilityatlas/Rating" := Exa.start ev86 n11
  obtain ⟨w_A, ev87⟩ := exa_v n17
  have S_Rating_A : Sta s s.heap "com/example/facility_atlas/facilityatlas/Rating" "A" "Lcom/example/facility_atlas/facilityatlas/Rating;" (.ref w_A) := Sta.start ev87 (Or.inr ⟨(wd6 hw), (wd33 hw)⟩)
  have E_w_A : Exa s s.heap w_A "com/example/facility_atlas/facilityatlas/Rating" := Exa.start ev87 n17
  obtain ⟨w_BBB, ev88⟩ := exa_v n21
  have S_Rating_BBB : Sta s s.heap "com/example/facility_atlas/facilityatlas/Rating" "BBB" "Lcom/example/facility_atlas/facilityatlas/Rating;" (.ref w_BBB) := Sta.start ev88 (Or.inr ⟨(wd6 hw), (wd35 hw)⟩)
  have E_w_BBB : Exa s s.heap w_BBB "com/example/facility_atlas/facilityatlas/Rating" := Exa.start ev88 n21
  obtain ⟨w_AA, ev89⟩ := exa_v n23
  have S_Rating_AA : Sta s s.heap "com/example/facility_atlas/facilityatlas/Rating" "AA" "Lcom/example/facility_atlas/facilityatlas/Rating;" (.ref w_AA) := Sta.start ev89 (Or.inr ⟨(wd6 hw), (wd37 hw)⟩)
  have E_w_AA : Exa s s.heap w_AA "com/example/facility_atlas/facilityatlas/Rating" := Exa.start ev89 n23
  obtain ⟨w_A_PLUS, ev90⟩ := exa_v n29
  have S_Rating_A_PLUS : Sta s s.heap "com/example/facility_atlas/facilityatlas/Rating" "A_PLUS" "Lcom/example/facility_atlas/facilityatlas/Rating;" (.ref w_A_PLUS) := Sta.start ev90 (Or.inr ⟨(wd6 hw), (wd39 hw)⟩)
  have E_w_A_PLUS : Exa s s.heap w_A_PLUS "com/example/facility_atlas/facilityatlas/Rating" := Exa.start ev90 n29
  obtain ⟨w_B_PLUS, ev91⟩ := exa_v n33
  have S_Rating_B_PLUS : Sta s s.heap "com/example/facility_atlas/facilityatlas/Rating" "B_PLUS" "Lcom/example/facility_atlas/facilityatlas/Rating;" (.ref w_B_PLUS) := Sta.start ev91 (Or.inr ⟨(wd6 hw), (wd41 hw)⟩)
  have E_w_B_PLUS : Exa s s.heap w_B_PLUS "com/example/facility_atlas/facilityatlas/Rating" := Exa.start ev91 n33
  obtain ⟨w_A_MINUS, ev92⟩ := exa_v n37
  have S_Rating_A_MINUS : Sta s s.heap "com/example/facility_atlas/facilityatlas/Rating" "A_MINUS" "Lcom/example/facility_atlas/facilityatlas/Rating;" (.ref w_A_MINUS) := Sta.start ev92 (Or.inr ⟨(wd6 hw), (wd43 hw)⟩)
  have E_w_A_MINUS : Exa s s.heap w_A_MINUS "com/example/facility_atlas/facilityatlas/Rating" := Exa.start ev92 n37
  obtain ⟨w_BB_PLUS, ev93⟩ := exa_v n39
  have S_Rating_BB_PLUS : Sta s s.heap "com/example/facility_atlas/facilityatlas/Rating" "BB_PLUS" "Lcom/example/facility_atlas/facilityatlas/Rating;" (.ref w_BB_PLUS) := Sta.start ev93 (Or.inr ⟨(wd6 hw), (wd45 hw)⟩)
  have E_w_BB_PLUS : Exa s s.heap w_BB_PLUS "com/example/facility_atlas/facilityatlas/Rating" := Exa.start ev93 n39
  obtain ⟨w_BB_MINUS, ev94⟩ := exa_v n45
  have S_Rating_BB_MINUS : Sta s s.heap "com/example/facility_atlas/facilityatlas/Rating" "BB_MINUS" "Lcom/example/facility_atlas/facilityatlas/Rating;" (.ref w_BB_MINUS) := Sta.start ev94 (Or.inr ⟨(wd6 hw), (wd47 hw)⟩)
  have E_w_BB_MINUS : Exa s s.heap w_BB_MINUS "com/example/facility_atlas/facilityatlas/Rating" := Exa.start ev94 n45
  obtain ⟨w_B_MINUS, ev95⟩ := exa_v n49
  have S_Rating_B_MINUS : Sta s s.heap "com/example/facility_atlas/facilityatlas/Rating" "B_MINUS" "Lcom/example/facility_atlas/facilityatlas/Rating;" (.ref w_B_MINUS) := Sta.start ev95 (Or.inr ⟨(wd6 hw), (wd49 hw)⟩)
  have E_w_B_MINUS : Exa s s.heap w_B_MINUS "com/example/facility_atlas/facilityatlas/Rating" := Exa.start ev95 n49
  obtain ⟨w_CC, ev96⟩ := exa_v n53
  have S_Rating_CC : Sta s s.heap "com/example/facility_atlas/facilityatlas/Rating" "CC" "Lcom/example/facility_atlas/facilityatlas/Rating;" (.ref w_CC) := Sta.start ev96 (Or.inr ⟨(wd6 hw), (wd51 hw)⟩)
  have E_w_CC : Exa s s.heap w_CC "com/example/facility_atlas/facilityatlas/Rating" := Exa.start ev96 n53
  obtain ⟨w_CCC_MINUS, ev97⟩ := exa_v n57
  have S_Rating_CCC_MINUS : Sta s s.heap "com/example/facility_atlas/facilityatlas/Rating" "CCC_MINUS" "Lcom/example/facility_atlas/facilityatlas/Rating;" (.ref w_CCC_MINUS) := Sta.start ev97 (Or.inr ⟨(wd6 hw), (wd53 hw)⟩)
  have E_w_CCC_MINUS : Exa s s.heap w_CCC_MINUS "com/example/facility_atlas/facilityatlas/Rating" := Exa.start ev97 n57
  obtain ⟨w_BB, ev98⟩ := exa_v n59
  have S_Rating_BB : Sta s s.heap "com/example/facility_atlas/facilityatlas/Rating" "BB" "Lcom/example/facility_atlas/facilityatlas/Rating;" (.ref w_BB) := Sta.start ev98 (Or.inr ⟨(wd6 hw), (wd55 hw)⟩)
  have E_w_BB : Exa s s.heap w_BB "com/example/facility_atlas/facilityatlas/Rating" := Exa.start ev98 n59
  obtain ⟨w_C, ev99⟩ := exa_v n65
  have S_Rating_C : Sta s s.heap "com/example/facility_atlas/facilityatlas/Rating" "C" "Lcom/example/facility_atlas/facilityatlas/Rating;" (.ref w_C) := Sta.start ev99 (Or.inr ⟨(wd6 hw), (wd57 hw)⟩)
  have E_w_C : Exa s s.heap w_C "com/example/facility_atlas/facilityatlas/Rating" := Exa.start ev99 n65
  obtain ⟨w_BBB_PLUS, ev100⟩ := exa_v n69
  have S_Rating_BBB_PLUS : Sta s s.heap "com/example/facility_atlas/facilityatlas/Rating" "BBB_PLUS" "Lcom/example/facility_atlas/facilityatlas/Rating;" (.ref w_BBB_PLUS) := Sta.start ev100 (Or.inr ⟨(wd6 hw), (wd59 hw)⟩)
  have E_w_BBB_PLUS : Exa s s.heap w_BBB_PLUS "com/example/facility_atlas/facilityatlas/Rating" := Exa.start ev100 n69
  obtain ⟨w_BBB_MINUS, ev101⟩ := exa_v n73
  have S_Rating_BBB_MINUS : Sta s s.heap "com/example/facility_atlas/facilityatlas/Rating" "BBB_MINUS" "Lcom/example/facility_atlas/facilityatlas/Rating;" (.ref w_BBB_MINUS) := Sta.start ev101 (Or.inr ⟨(wd6 hw), (wd61 hw)⟩)
  have E_w_BBB_MINUS : Exa s s.heap w_BBB_MINUS "com/example/facility_atlas/facilityatlas/Rating" := Exa.start ev101 n73
  obtain ⟨w_CCC_PLUS, ev102⟩ := exa_v n77
  have S_Rating_CCC_PLUS : Sta s s.heap "com/example/facility_atlas/facilityatlas/Rating" "CCC_PLUS" "Lcom/example/facility_atlas/facilityatlas/Rating;" (.ref w_CCC_PLUS) := Sta.start ev102 (Or.inr ⟨(wd6 hw), (wd63 hw)⟩)
  have E_w_CCC_PLUS : Exa s s.heap w_CCC_PLUS "com/example/facility_atlas/facilityatlas/Rating" := Exa.start ev102 n77
  obtain ⟨w_CCC, ev103⟩ := exa_v n81
  have S_Rating_CCC : Sta s s.heap "com/example/facility_atlas/facilityatlas/Rating" "CCC" "Lcom/example/facility_atlas/facilityatlas/Rating;" (.ref w_CCC) := Sta.start ev103 (Or.inr ⟨(wd6 hw), (wd65 hw)⟩)
  have E_w_CCC : Exa s s.heap w_CCC "com/example/facility_atlas/facilityatlas/Rating" := Exa.start ev103 n81
  have ev104 := own_eqI n5
  have F_105 : Fld s s.heap w_AAA "java/lang/Enum" "ordinal" "I" (.int (0 : Int32)) := Fld.start ((fld_at ev83).symm.trans ev104)
  have ev106 := own_eqI n7
  have F_107 : Fld s s.heap w_AA_MINUS "java/lang/Enum" "ordinal" "I" (.int (3 : Int32)) := Fld.start ((fld_at ev84).symm.trans ev106)
  have ev108 := own_eqI n13
  have F_109 : Fld s s.heap w_B "java/lang/Enum" "ordinal" "I" (.int (14 : Int32)) := Fld.start ((fld_at ev85).symm.trans ev108)
  have ev110 := own_eqI n15
  have F_111 : Fld s s.heap w_AA_PLUS "java/lang/Enum" "ordinal" "I" (.int (1 : Int32)) := Fld.start ((fld_at ev86).symm.trans ev110)
  have ev112 := own_eqI n19
  have F_113 : Fld s s.heap w_A "java/lang/Enum" "ordinal" "I" (.int (5 : Int32)) := Fld.start ((fld_at ev87).symm.trans ev112)
  have ev114 := own_eqI n25
  have F_115 : Fld s s.heap w_BBB "java/lang/Enum" "ordinal" "I" (.int (8 : Int32)) := Fld.start ((fld_at ev88).symm.trans ev114)
  have ev116 := own_eqI n27
  have F_117 : Fld s s.heap w_AA "java/lang/Enum" "ordinal" "I" (.int (2 : Int32)) := Fld.start ((fld_at ev89).symm.trans ev116)
  have ev118 := own_eqI n31
  have F_119 : Fld s s.heap w_A_PLUS "java/lang/Enum" "ordinal" "I" (.int (4 : Int32)) := Fld.start ((fld_at ev90).symm.trans ev118)
  have ev120 := own_eqI n35
  have F_121 : Fld s s.heap w_B_PLUS "java/lang/Enum" "ordinal" "I" (.int (13 : Int32)) := Fld.start ((fld_at ev91).symm.trans ev120)
  have ev122 := own_eqI n41
  have F_123 : Fld s s.heap w_A_MINUS "java/lang/Enum" "ordinal" "I" (.int (6 : Int32)) := Fld.start ((fld_at ev92).symm.trans ev122)
  have ev124 := own_eqI n43
  have F_125 : Fld s s.heap w_BB_PLUS "java/lang/Enum" "ordinal" "I" (.int (10 : Int32)) := Fld.start ((fld_at ev93).symm.trans ev124)
  have ev126 := own_eqI n47
  have F_127 : Fld s s.heap w_BB_MINUS "java/lang/Enum" "ordinal" "I" (.int (12 : Int32)) := Fld.start ((fld_at ev94).symm.trans ev126)
  have ev128 := own_eqI n51
  have F_129 : Fld s s.heap w_B_MINUS "java/lang/Enum" "ordinal" "I" (.int (15 : Int32)) := Fld.start ((fld_at ev95).symm.trans ev128)
  have ev130 := own_eqI n55
  have F_131 : Fld s s.heap w_CC "java/lang/Enum" "ordinal" "I" (.int (19 : Int32)) := Fld.start ((fld_at ev96).symm.trans ev130)
  have ev132 := own_eqI n61
  have F_133 : Fld s s.heap w_CCC_MINUS "java/lang/Enum" "ordinal" "I" (.int (18 : Int32)) := Fld.start ((fld_at ev97).symm.trans ev132)
  have ev134 := own_eqI n63
  have F_135 : Fld s s.heap w_BB "java/lang/Enum" "ordinal" "I" (.int (11 : Int32)) := Fld.start ((fld_at ev98).symm.trans ev134)
  have ev136 := own_eqI n67
  have F_137 : Fld s s.heap w_C "java/lang/Enum" "ordinal" "I" (.int (20 : Int32)) := Fld.start ((fld_at ev99).symm.trans ev136)
  have ev138 := own_eqI n71
  have F_139 : Fld s s.heap w_BBB_PLUS "java/lang/Enum" "ordinal" "I" (.int (7 : Int32)) := Fld.start ((fld_at ev100).symm.trans ev138)
  have ev140 := own_eqI n75
  have F_141 : Fld s s.heap w_BBB_MINUS "java/lang/Enum" "ordinal" "I" (.int (9 : Int32)) := Fld.start ((fld_at ev101).symm.trans ev140)
  have ev142 := own_eqI n79
  have F_143 : Fld s s.heap w_CCC_PLUS "java/lang/Enum" "ordinal" "I" (.int (16 : Int32)) := Fld.start ((fld_at ev102).symm.trans ev142)
  have ev144 := own_eqI n82
  have F_145 : Fld s s.heap w_CCC "java/lang/Enum" "ordinal" "I" (.int (17 : Int32)) := Fld.start ((fld_at ev103).symm.trans ev144)
  obtain ⟨v1, selv1, E_v1, F_v1⟩ : ∃ w, SelG s ((i0 &&& (2147483647 : Int32)) % (21 : Int32)) w ∧ Exa s s.heap w "com/example/facility_atlas/facilityatlas/Rating" ∧ Fld s s.heap w "java/lang/Enum" "ordinal" "I" (.int ((i0 &&& (2147483647 : Int32)) % (21 : Int32))) := by
    rcases own_mod21 i0 with h | h | h | h | h | h | h | h | h | h | h | h | h | h | h | h | h | h | h | h | h
    · exact ⟨w_AAA, Or.inl (⟨h, S_Rating_AAA⟩), E_w_AAA, by rw [h]; exact F_105⟩
    · exact ⟨w_AA_PLUS, Or.inr (Or.inl (⟨h, S_Rating_AA_PLUS⟩)), E_w_AA_PLUS, by rw [h]; exact F_111⟩
    · exact ⟨w_AA, Or.inr (Or.inr (Or.inl (⟨h, S_Rating_AA⟩))), E_w_AA, by rw [h]; exact F_117⟩
    · exact ⟨w_AA_MINUS, Or.inr (Or.inr (Or.inr (Or.inl (⟨h, S_Rating_AA_MINUS⟩)))), E_w_AA_MINUS, by rw [h]; exact F_107⟩
    · exact ⟨w_A_PLUS, Or.inr (Or.inr (Or.inr (Or.inr (Or.inl (⟨h, S_Rating_A_PLUS⟩))))), E_w_A_PLUS, by rw [h]; exact F_119⟩
    · exact ⟨w_A, Or.inr (Or.inr (Or.inr (Or.inr (Or.inr (Or.inl (⟨h, S_Rating_A⟩)))))), E_w_A, by rw [h]; exact F_113⟩
    · exact ⟨w_A_MINUS, Or.inr (Or.inr (Or.inr (Or.inr (Or.inr (Or.inr (Or.inl (⟨h, S_Rating_A_MINUS⟩))))))), E_w_A_MINUS, by rw [h]; exact F_123⟩
    · exact ⟨w_BBB_PLUS, Or.inr (Or.inr (Or.inr (Or.inr (Or.inr (Or.inr (Or.inr (Or.inl (⟨h, S_Rating_BBB_PLUS⟩)))))))), E_w_BBB_PLUS, by rw [h]; exact F_139⟩
    · exact ⟨w_BBB, Or.inr (Or.inr (Or.inr (Or.inr (Or.inr (Or.inr (Or.inr (Or.inr (Or.inl (⟨h, S_Rating_BBB⟩))))))))), E_w_BBB, by rw [h]; exact F_115⟩
    · exact ⟨w_BBB_MINUS, Or.inr (Or.inr (Or.inr (Or.inr (Or.inr (Or.inr (Or.inr (Or.inr (Or.inr (Or.inl (⟨h, S_Rating_BBB_MINUS⟩)))))))))), E_w_BBB_MINUS, by rw [h]; exact F_141⟩
    · exact ⟨w_BB_PLUS, Or.inr (Or.inr (Or.inr (Or.inr (Or.inr (Or.inr (Or.inr (Or.inr (Or.inr (Or.inr (Or.inl (⟨h, S_Rating_BB_PLUS⟩))))))))))), E_w_BB_PLUS, by rw [h]; exact F_125⟩
    · exact ⟨w_BB, Or.inr (Or.inr (Or.inr (Or.inr (Or.inr (Or.inr (Or.inr (Or.inr (Or.inr (Or.inr (Or.inr (Or.inl (⟨h, S_Rating_BB⟩)))))))))))), E_w_BB, by rw [h]; exact F_135⟩
    · exact ⟨w_BB_MINUS, Or.inr (Or.inr (Or.inr (Or.inr (Or.inr (Or.inr (Or.inr (Or.inr (Or.inr (Or.inr (Or.inr (Or.inr (Or.inl (⟨h, S_Rating_BB_MINUS⟩))))))))))))), E_w_BB_MINUS, by rw [h]; exact F_127⟩
    · exact ⟨w_B_PLUS, Or.inr (Or.inr (Or.inr (Or.inr (Or.inr (Or.inr (Or.inr (Or.inr (Or.inr (Or.inr (Or.inr (Or.inr (Or.inr (Or.inl (⟨h, S_Rating_B_PLUS⟩)))))))))))))), E_w_B_PLUS, by rw [h]; exact F_121⟩
    · exact ⟨w_B, Or.inr (Or.inr (Or.inr (Or.inr (Or.inr (Or.inr (Or.inr (Or.inr (Or.inr (Or.inr (Or.inr (Or.inr (Or.inr (Or.inr (Or.inl (⟨h, S_Rating_B⟩))))))))))))))), E_w_B, by rw [h]; exact F_109⟩
    · exact ⟨w_B_MINUS, Or.inr (Or.inr (Or.inr (Or.inr (Or.inr (Or.inr (Or.inr (Or.inr (Or.inr (Or.inr (Or.inr (Or.inr (Or.inr (Or.inr (Or.inr (Or.inl (⟨h, S_Rating_B_MINUS⟩)))))))))))))))), E_w_B_MINUS, by rw [h]; exact F_129⟩
    · exact ⟨w_CCC_PLUS, Or.inr (Or.inr (Or.inr (Or.inr (Or.inr (Or.inr (Or.inr (Or.inr (Or.inr (Or.inr (Or.inr (Or.inr (Or.inr (Or.inr (Or.inr (Or.inr (Or.inl (⟨h, S_Rating_CCC_PLUS⟩))))))))))))))))), E_w_CCC_PLUS, by rw [h]; exact F_143⟩
    · exact ⟨w_CCC, Or.inr (Or.inr (Or.inr (Or.inr (Or.inr (Or.inr (Or.inr (Or.inr (Or.inr (Or.inr (Or.inr (Or.inr (Or.inr (Or.inr (Or.inr (Or.inr (Or.inr (Or.inl (⟨h, S_Rating_CCC⟩)))))))))))))))))), E_w_CCC, by rw [h]; exact F_145⟩
    · exact ⟨w_CCC_MINUS, Or.inr (Or.inr (Or.inr (Or.inr (Or.inr (Or.inr (Or.inr (Or.inr (Or.inr (Or.inr (Or.inr (Or.inr (Or.inr (Or.inr (Or.inr (Or.inr (Or.inr (Or.inr (Or.inl (⟨h, S_Rating_CCC_MINUS⟩))))))))))))))))))), E_w_CCC_MINUS, by rw [h]; exact F_133⟩
    · exact ⟨w_CC, Or.inr (Or.inr (Or.inr (Or.inr (Or.inr (Or.inr (Or.inr (Or.inr (Or.inr (Or.inr (Or.inr (Or.inr (Or.inr (Or.inr (Or.inr (Or.inr (Or.inr (Or.inr (Or.inr (Or.inl (⟨h, S_Rating_CC⟩)))))))))))))))))))), E_w_CC, by rw [h]; exact F_131⟩
    · exact ⟨w_C, Or.inr (Or.inr (Or.inr (Or.inr (Or.inr (Or.inr (Or.inr (Or.inr (Or.inr (Or.inr (Or.inr (Or.inr (Or.inr (Or.inr (Or.inr (Or.inr (Or.inr (Or.inr (Or.inr (Or.inr (⟨h, S_Rating_C⟩)))))))))))))))))))), E_w_C, by rw [h]; exact F_137⟩
  obtain ⟨v2, selv2, E_v2, F_v2⟩ : ∃ w, SelG s ((i1 &&& (2147483647 : Int32)) % (21 : Int32)) w ∧ Exa s s.heap w "com/example/facility_atlas/facilityatlas/Rating" ∧ Fld s s.heap w "java/lang/Enum" "ordinal" "I" (.int ((i1 &&& (2147483647 : Int32)) % (21 : Int32))) := by
    rcases own_mod21 i1 with h | h | h | h | h | h | h | h | h | h | h | h | h | h | h | h | h | h | h | h | h
    · exact ⟨w_AAA, Or.inl (⟨h, S_Rating_AAA⟩), E_w_AAA, by rw [h]; exact F_105⟩
    · exact ⟨w_AA_PLUS, Or.inr (Or.inl (⟨h, S_Rating_AA_PLUS⟩)), E_w_AA_PLUS, by rw [h]; exact F_111⟩
    · exact ⟨w_AA, Or.inr (Or.inr (Or.inl (⟨h, S_Rating_AA⟩))), E_w_AA, by rw [h]; exact F_117⟩
    · exact ⟨w_AA_MINUS, Or.inr (Or.inr (Or.inr (Or.inl (⟨h, S_Rating_AA_MINUS⟩)))), E_w_AA_MINUS, by rw [h]; exact F_107⟩
    · exact ⟨w_A_PLUS, Or.inr (Or.inr (Or.inr (Or.inr (Or.inl (⟨h, S_Rating_A_PLUS⟩))))), E_w_A_PLUS, by rw [h]; exact F_119⟩
    · exact ⟨w_A, Or.inr (Or.inr (Or.inr (Or.inr (Or.inr (Or.inl (⟨h, S_Rating_A⟩)))))), E_w_A, by rw [h]; exact F_113⟩
    · exact ⟨w_A_MINUS, Or.inr (Or.inr (Or.inr (Or.inr (Or.inr (Or.inr (Or.inl (⟨h, S_Rating_A_MINUS⟩))))))), E_w_A_MINUS, by rw [h]; exact F_123⟩
    · exact ⟨w_BBB_PLUS, Or.inr (Or.inr (Or.inr (Or.inr (Or.inr (Or.inr (Or.inr (Or.inl (⟨h, S_Rating_BBB_PLUS⟩)))))))), E_w_BBB_PLUS, by rw [h]; exact F_139⟩
    · exact ⟨w_BBB, Or.inr (Or.inr (Or.inr (Or.inr (Or.inr (Or.inr (Or.inr (Or.inr (Or.inl (⟨h, S_Rating_BBB⟩))))))))), E_w_BBB, by rw [h]; exact F_115⟩
    · exact ⟨w_BBB_MINUS, Or.inr (Or.inr (Or.inr (Or.inr (Or.inr (Or.inr (Or.inr (Or.inr (Or.inr (Or.inl (⟨h, S_Rating_BBB_MINUS⟩)))))))))), E_w_BBB_MINUS, by rw [h]; exact F_141⟩
    · exact ⟨w_BB_PLUS, Or.inr (Or.inr (Or.inr (Or.inr (Or.inr (Or.inr (Or.inr (Or.inr (Or.inr (Or.inr (Or.inl (⟨h, S_Rating_BB_PLUS⟩))))))))))), E_w_BB_PLUS, by rw [h]; exact F_125⟩
    · exact ⟨w_BB, Or.inr (Or.inr (Or.inr (Or.inr (Or.inr (Or.inr (Or.inr (Or.inr (Or.inr (Or.inr (Or.inr (Or.inl (⟨h, S_Rating_BB⟩)))))))))))), E_w_BB, by rw [h]; exact F_135⟩
    · exact ⟨w_BB_MINUS, Or.inr (Or.inr (Or.inr (Or.inr (Or.inr (Or.inr (Or.inr (Or.inr (Or.inr (Or.inr (Or.inr (Or.inr (Or.inl (⟨h, S_Rating_BB_MINUS⟩))))))))))))), E_w_BB_MINUS, by rw [h]; exact F_127⟩
    · exact ⟨w_B_PLUS, Or.inr (Or.inr (Or.inr (Or.inr (Or.inr (Or.inr (Or.inr (Or.inr (Or.inr (Or.inr (Or.inr (Or.inr (Or.inr (Or.inl (⟨h, S_Rating_B_PLUS⟩)))))))))))))), E_w_B_PLUS, by rw [h]; exact F_121⟩
    · exact ⟨w_B, Or.inr (Or.inr (Or.inr (Or.inr (Or.inr (Or.inr (Or.inr (Or.inr (Or.inr (Or.inr (Or.inr (Or.inr (Or.inr (Or.inr (Or.inl (⟨h, S_Rating_B⟩))))))))))))))), E_w_B, by rw [h]; exact F_109⟩
    · exact ⟨w_B_MINUS, Or.inr (Or.inr (Or.inr (Or.inr (Or.inr (Or.inr (Or.inr (Or.inr (Or.inr (Or.inr (Or.inr (Or.inr (Or.inr (Or.inr (Or.inr (Or.inl (⟨h, S_Rating_B_MINUS⟩)))))))))))))))), E_w_B_MINUS, by rw [h]; exact F_129⟩
    · exact ⟨w_CCC_PLUS, Or.inr (Or.inr (Or.inr (Or.inr (Or.inr (Or.inr (Or.inr (Or.inr (Or.inr (Or.inr (Or.inr (Or.inr (Or.inr (Or.inr (Or.inr (Or.inr (Or.inl (⟨h, S_Rating_CCC_PLUS⟩))))))))))))))))), E_w_CCC_PLUS, by rw [h]; exact F_143⟩
    · exact ⟨w_CCC, Or.inr (Or.inr (Or.inr (Or.inr (Or.inr (Or.inr (Or.inr (Or.inr (Or.inr (Or.inr (Or.inr (Or.inr (Or.inr (Or.inr (Or.inr (Or.inr (Or.inr (Or.inl (⟨h, S_Rating_CCC⟩)))))))))))))))))), E_w_CCC, by rw [h]; exact F_145⟩
    · exact ⟨w_CCC_MINUS, Or.inr (Or.inr (Or.inr (Or.inr (Or.inr (Or.inr (Or.inr (Or.inr (Or.inr (Or.inr (Or.inr (Or.inr (Or.inr (Or.inr (Or.inr (Or.inr (Or.inr (Or.inr (Or.inl (⟨h, S_Rating_CCC_MINUS⟩))))))))))))))))))), E_w_CCC_MINUS, by rw [h]; exact F_133⟩
    · exact ⟨w_CC, Or.inr (Or.inr (Or.inr (Or.inr (Or.inr (Or.inr (Or.inr (Or.inr (Or.inr (Or.inr (Or.inr (Or.inr (Or.inr (Or.inr (Or.inr (Or.inr (Or.inr (Or.inr (Or.inr (Or.inl (⟨h, S_Rating_CC⟩)))))))))))))))))))), E_w_CC, by rw [h]; exact F_131⟩
    · exact ⟨w_C, Or.inr (Or.inr (Or.inr (Or.inr (Or.inr (Or.inr (Or.inr (Or.inr (Or.inr (Or.inr (Or.inr (Or.inr (Or.inr (Or.inr (Or.inr (Or.inr (Or.inr (Or.inr (Or.inr (Or.inr (⟨h, S_Rating_C⟩)))))))))))))))))))), E_w_C, by rw [h]; exact F_137⟩
  have b1 := own_b21 i0
  have b2 := own_b21 i1
  have R : MetFree l x (head1 (Jvm.Cond.code x code maxLocals ret :: tables_1) room_1) (fun a U => a = #[(.int i0), (.int i1)] ∧ s.Warmed39 U.vm ∧ U.heap = s.heap) (fun _ _ _ _ _ => True) (fun _ U o U' => ∃ v L, o = .returned v ∧ Q0 s.heap.size v L ∧ FrameEnd U o U' L 0 0) := by
    by_cases hlt : ((i0 &&& (2147483647 : Int32)) % (21 : Int32)) < ((i1 &&& (2147483647 : Int32)) % (21 : Int32))
    · exact rm0_lt l s _ hw tables_1 i0 i1 w_AAA w_AA_PLUS w_AA w_AA_MINUS w_A_PLUS w_A w_A_MINUS w_BBB_PLUS w_BBB w_BBB_MINUS w_BB_PLUS w_BB w_BB_MINUS w_B_PLUS w_B w_B_MINUS w_CCC_PLUS w_CCC w_CCC_MINUS w_CC w_C v1 v2 s.heap s.heap.size (Old.start s) selv1 selv2 hlt F_v1 E_v1 F_v2 E_v2 (own_lt b1.1 b2.1 hlt) (own_negsub _ _)
    · exact rm0_ge l s _ hw tables_1 i0 i1 v1 v2 s.heap s.heap.size (Old.start s) selv1 selv2 hlt F_v1 E_v1 F_v2 E_v2 (own_ge b1.1 b2.1 hlt)
  obtain ⟨n, o, h1, h2, h3, _, L, rfl, ⟨rfl, N⟩, hq⟩ := R p e ha hc hk s m _ below hf ((Spec.applies_iff_loose hf).mp happ).1 ⟨rfl, State.Warmed39.refl s, rfl⟩ trivial
  refine ⟨n, _, h1, h2, h3, hpost _ _ _ _ _ _ ⟨Cond.after_iff.mpr rfl, Cond.after_iff.mpr (eq_i res_at (Term.int_eval (1)) rfl), trivial⟩ ⟨hq.1, hq.2.1, (hq.2.2.sift fun y hy => Or.inr (N y hy)).mono (by decide) (by decide)⟩⟩
theorem main_1_1 : Claimed_1_1 := comes_1 fun _ _ _ _ _ _ h hF => ⟨h.1, hF⟩
theorem main_1_2 : Claimed_1_2 := comes_1 fun _ _ _ _ _ _ h hF => ⟨h.2.1, hF⟩
end Jvm.Pilot.@@N@@
namespace Jvm.Pilot.@@N@@
open Jvm Jvm.ClassFile Sem Op Lib Jvm.Free Jvm.Stand Jvm.Pilot.@@N@@.Jvm.D
/-! MADE BY PROGRAM (witnessworld.py) out of the Statement's table words and the real class files: 13 classes; the members and pool entries that the words name. The judged class is class 1, her method 2. -/
namespace start1
open Jvm.ClassFile
def u (s : String) : CpInfo := .utf8 (stringToUtf16 s)
/-- a pool by its gaps: so many unusable entries, then the entry; so many at the end -/
def gap : Nat → List CpInfo → List CpInfo
  | 0, r => r
  | n + 1, r => .unusable :: gap n r
def poolList (es : List (Nat × CpInfo)) (last : Nat) : List CpInfo := es.foldr (fun e r => gap e.1 (e.2 :: r)) (gap last [])
def pool (es : List (Nat × CpInfo)) (last : Nat) : Array CpInfo := ⟨poolList es last⟩
def fileOf (pool : Array CpInfo) (this : Nat) (attrs : Array Attribute := #[]) (ms : Array MethodInfo := #[]) (fl : Nat := 33) (sup : Nat := 0) (ifs : Array Nat := #[]) (fds : Array FieldInfo := #[]) : ClassFile where
  minorVersion := 0
  majorVersion := 65
  constantPool := pool
  accessFlags := fl
  thisClass := this
  superClass := sup
  interfaces := ifs
  fields := fds
  methods := ms
  attributes := attrs
def plain (name : String) (sup : Option ClassId) : Class where
  name := name
  kind := .ordinary
  loader := none
  accessFlags := 33
  super := sup
  interfaces := #[]
  cf := none
  fields := #[]
  methods := #[]
  instanceTypes := #[]
  staticTypes := #[]
  resolved := #[]
  callSites := []
  init := .initialized
  statics := none
  mirror := none

def pool0 : Array CpInfo := pool [(5, u "<init>"), (0, u "()V"), (1, .class_ 10), (1, u "java/lang/Object")] 113

def k0m0 : Method := { name := "<init>", desc := "()V", sig := { parameters := [], returnType := none }, accessFlags := 1, code := none }
/-- java/lang/Object -/
def k0 : Class := { plain "java/lang/Object" none with
  accessFlags := 33
  interfaces := #[]
  cf := some (fileOf pool0 8 #[] #[{ accessFlags := 1, nameIndex := 5, descriptorIndex := 6, attributes := #[] }] 33 0 #[] #[])
  fields := #[]
  methods := #[k0m0]
  instanceTypes := #[]
  staticTypes := #[]
  resolved := Array.replicate 124 none
  statics := none }

def pool1 : Array CpInfo := pool [(2, .class_ 4), (1, u "java/lang/Object"), (0, u "<init>"), (0, u "()V"), (0, .fieldref 8 9), (0, .class_ 10), (0, .nameAndType 11 12), (0, u "com/example/facility_atlas/facilityatlas/Rating"), (0, u "AAA"), (0, u "Lcom/example/facility_atlas/facilityatlas/Rating;"), (0, .fieldref 8 14), (0, .nameAndType 15 12), (0, u "AA_PLUS"), (0, .fieldref 8 17), (0, .nameAndType 18 12), (0, u "AA"), (0, .fieldref 8 20), (0, .nameAndType 21 12), (0, u "AA_MINUS"), (0, .fieldref 8 23), (0, .nameAndType 24 12), (0, u "A_PLUS"), (0, .fieldref 8 26), (0, .nameAndType 27 12), (0, u "A"), (0, .fieldref 8 29), (0, .nameAndType 30 12), (0, u "A_MINUS"), (0, .fieldref 8 32), (0, .nameAndType 33 12), (0, u "BBB_PLUS"), (0, .fieldref 8 35), (0, .nameAndType 36 12), (0, u "BBB"), (0, .fieldref 8 38), (0, .nameAndType 39 12), (0, u "BBB_MINUS"), (0, .fieldref 8 41), (0, .nameAndType 42 12), (0, u "BB_PLUS"), (0, .fieldref 8 44), (0, .nameAndType 45 12), (0, u "BB"), (0, .fieldref 8 47), (0, .nameAndType 48 12), (0, u "BB_MINUS"), (0, .fieldref 8 50), (0, .nameAndType 51 12), (0, u "B_PLUS"), (0, .fieldref 8 53), (0, .nameAndType 54 12), (0, u "B"), (0, .fieldref 8 56), (0, .nameAndType 57 12), (0, u "B_MINUS"), (0, .fieldref 8 59), (0, .nameAndType 60 12), (0, u "CCC_PLUS"), (0, .fieldref 8 62), (0, .nameAndType 63 12), (0, u "CCC"), (0, .fieldref 8 65), (0, .nameAndType 66 12), (0, u "CCC_MINUS"), (0, .fieldref 8 68), (0, .nameAndType 69 12), (0, u "CC"), (0, .fieldref 8 71), (0, .nameAndType 72 12), (0, u "C"), (0, .integer 2147483647), (0, .methodref 75 76), (0, .class_ 77), (0, .nameAndType 78 79), (0, u "com/example/facility_atlas/facilityatlas/RatingGradesApartPinLaw"), (0, u "grade"), (0, u "(I)Lcom/example/facility_atlas/facilityatlas/Rating;"), (0, .methodref 8 81), (0, .nameAndType 82 83), (0, u "gradesApart"), (0, u "(Lcom/example/facility_atlas/facilityatlas/Rating;)I"), (3, u "law"), (0, u "(II)Z")] 2

def k1m0 : Method := { name := "<init>", desc := "()V", sig := { parameters := [], returnType := none }, accessFlags := 2, code := none }
def k1c1 : Code := { maxStack := 1, maxLocals := 1, code := method_2_code, exceptionTable := #[], attributes := #[] }
def k1m1 : Method := { name := "grade", desc := "(I)Lcom/example/facility_atlas/facilityatlas/Rating;", sig := { parameters := [.int], returnType := some (.object "com/example/facility_atlas/facilityatlas/Rating") }, accessFlags := 10, code := some k1c1 }
def k1c2 : Code := { maxStack := 2, maxLocals := 7, code := code, exceptionTable := #[], attributes := #[] }
def k1m2 : Method := { name := "law", desc := "(II)Z", sig := { parameters := [.int, .int], returnType := some .boolean }, accessFlags := 9, code := some k1c2 }
/-- com/example/facility_atlas/facilityatlas/RatingGradesApartPinLaw -/
def k1 : Class := { plain "com/example/facility_atlas/facilityatlas/RatingGradesApartPinLaw" (some 0) with
  accessFlags := 49
  interfaces := #[]
  cf := some (fileOf pool1 75 #[] #[{ accessFlags := 2, nameIndex := 5, descriptorIndex := 6, attributes := #[] }, { accessFlags := 10, nameIndex := 78, descriptorIndex := 79, attributes := #[] }, { accessFlags := 9, nameIndex := 87, descriptorIndex := 88, attributes := #[] }] 49 2 #[] #[])
  fields := #[]
  methods := #[k1m0, k1m1, k1m2]
  instanceTypes := #[]
  staticTypes := #[]
  resolved := Array.replicate 91 none
  statics := none }

def pool2 : Array CpInfo := pool [(1, .class_ 2), (0, u "java/lang/constant/Constable"), (0, .class_ 4), (0, u "java/lang/Object")] 6

/-- java/lang/constant/Constable -/
def k2 : Class := { plain "java/lang/constant/Constable" (some 0) with
  accessFlags := 1537
  interfaces := #[]
  cf := some (fileOf pool2 1 #[] #[] 1537 3 #[] #[])
  fields := #[]
  methods := #[]
  instanceTypes := #[]
  staticTypes := #[]
  resolved := Array.replicate 11 none
  statics := none }

def pool3 : Array CpInfo := pool [(1, .class_ 2), (0, u "java/lang/Comparable"), (0, .class_ 4), (0, u "java/lang/Object")] 7

/-- java/lang/Comparable -/
def k3 : Class := { plain "java/lang/Comparable" (some 0) with
  accessFlags := 1537
  interfaces := #[]
  cf := some (fileOf pool3 1 #[] #[] 1537 3 #[] #[])
  fields := #[]
  methods := #[]
  instanceTypes := #[]
  staticTypes := #[]
  resolved := Array.replicate 12 none
  statics := none }

def pool4 : Array CpInfo := pool [(1, .class_ 2), (0, u "java/io/Serializable"), (0, .class_ 4), (0, u "java/lang/Object")] 2

/-- java/io/Serializable -/
def k4 : Class := { plain "java/io/Serializable" (some 0) with
  accessFlags := 1537
  interfaces := #[]
  cf := some (fileOf pool4 1 #[] #[] 1537 3 #[] #[])
  fields := #[]
  methods := #[]
  instanceTypes := #[]
  staticTypes := #[]
  resolved := Array.replicate 7 none
  statics := none }

def pool5 : Array CpInfo := pool [(2, .class_ 4), (1, u "java/lang/Enum"), (0, u "name"), (0, u "Ljava/lang/String;"), (0, .fieldref 2 8), (0, .nameAndType 9 10), (0, u "ordinal"), (0, u "I"), (1, .class_ 14), (1, u "java/lang/Object"), (4, u "hash"), (86, .class_ 108), (1, u "java/lang/Enum$EnumDesc"), (2, .class_ 112), (0, u "java/lang/constant/Constable"), (0, .class_ 114), (0, u "java/lang/Comparable"), (0, .class_ 116), (0, u "java/io/Serializable"), (9, u "()I")] 77

def k5c0 : Code := { maxStack := 1, maxLocals := 1, code := jdk_37_method_2_code, exceptionTable := #[], attributes := #[] }
def k5m0 : Method := { name := "ordinal", desc := "()I", sig := { parameters := [], returnType := some .int }, accessFlags := 17, code := some k5c0 }
/-- java/lang/Enum -/
def k5 : Class := { plain "java/lang/Enum" (some 0) with
  accessFlags := 1057
  interfaces := #[2, 3, 4]
  cf := some (fileOf pool5 2 #[.nestMembers #[106]] #[{ accessFlags := 17, nameIndex := 9, descriptorIndex := 126, attributes := #[] }] 1057 12 #[111, 113, 115] #[{ accessFlags := 18, nameIndex := 5, descriptorIndex := 6, attributes := #[] }, { accessFlags := 18, nameIndex := 9, descriptorIndex := 10, attributes := #[] }, { accessFlags := 2, nameIndex := 19, descriptorIndex := 10, attributes := #[] }])
  fields := #[{ name := "name", type := (.object "java/lang/String"), accessFlags := 18, slot := 0, constantValue := 0 }, { name := "ordinal", type := .int, accessFlags := 18, slot := 1, constantValue := 0 }, { name := "hash", type := .int, accessFlags := 2, slot := 2, constantValue := 0 }]
  methods := #[k5m0]
  instanceTypes := #[(.object "java/lang/String"), .int, .int]
  staticTypes := #[]
  resolved := Array.replicate 204 none
  statics := none }

def pool6 : Array CpInfo := pool [(1, .class_ 2), (0, u "com/example/facility_atlas/facilityatlas/Rating"), (2, u "AAA"), (0, u "Lcom/example/facility_atlas/facilityatlas/Rating;"), (2, u "AA_PLUS"), (2, u "AA"), (2, u "AA_MINUS"), (2, u "A_PLUS"), (2, u "A"), (2, u "A_MINUS"), (2, u "BBB_PLUS"), (2, u "BBB"), (2, u "BBB_MINUS"), (2, u "BB_PLUS"), (2, u "BB"), (2, u "BB_MINUS"), (2, u "B_PLUS"), (2, u "B"), (2, u "B_MINUS"), (2, u "CCC_PLUS"), (2, u "CCC"), (2, u "CCC_MINUS"), (2, u "CC"), (2, u "C"), (2, u "$VALUES"), (0, u "[Lcom/example/facility_atlas/facilityatlas/Rating;"), (6, .class_ 79), (1, u "java/lang/Enum"), (8, u "standardAndPoors"), (0, u "Ljava/lang/String;"), (2, u "moodys"), (1, .class_ 96), (1, u "com/example/facility_atlas/facilityatlas/Rating$1"), (4, .nameAndType 103 104), (1, u "ordinal"), (0, u "()I"), (5, .methodref 1 101), (0, .methodref 112 113), (0, .class_ 114), (0, .nameAndType 115 116), (0, u "java/lang/Math"), (0, u "abs"), (0, u "(I)I"), (120, u "gradesApart"), (0, u "(Lcom/example/facility_atlas/facilityatlas/Rating;)I")] 23

def k6c0 : Code := { maxStack := 2, maxLocals := 2, code := prog_47_method_6_code, exceptionTable := #[], attributes := #[] }
def k6m0 : Method := { name := "gradesApart", desc := "(Lcom/example/facility_atlas/facilityatlas/Rating;)I", sig := { parameters := [(.object "com/example/facility_atlas/facilityatlas/Rating")], returnType := some .int }, accessFlags := 1, code := some k6c0 }
/-- com/example/facility_atlas/facilityatlas/Rating -/
def k6 : Class := { plain "com/example/facility_atlas/facilityatlas/Rating" (some 5) with
  accessFlags := 16433
  interfaces := #[]
  cf := some (fileOf pool6 1 #[.nestMembers #[94]] #[{ accessFlags := 1, nameIndex := 237, descriptorIndex := 238, attributes := #[] }] 16433 77 #[] #[{ accessFlags := 16409, nameIndex := 5, descriptorIndex := 6, attributes := #[] }, { accessFlags := 16409, nameIndex := 9, descriptorIndex := 6, attributes := #[] }, { accessFlags := 16409, nameIndex := 12, descriptorIndex := 6, attributes := #[] }, { accessFlags := 16409, nameIndex := 15, descriptorIndex := 6, attributes := #[] }, { accessFlags := 16409, nameIndex := 18, descriptorIndex := 6, attributes := #[] }, { accessFlags := 16409, nameIndex := 21, descriptorIndex := 6, attributes := #[] }, { accessFlags := 16409, nameIndex := 24, descriptorIndex := 6, attributes := #[] }, { accessFlags := 16409, nameIndex := 27, descriptorIndex := 6, attributes := #[] }, { accessFlags := 16409, nameIndex := 30, descriptorIndex := 6, attributes := #[] }, { accessFlags := 16409, nameIndex := 33, descriptorIndex := 6, attributes := #[] }, { accessFlags := 16409, nameIndex := 36, descriptorIndex := 6, attributes := #[] }, { accessFlags := 16409, nameIndex := 39, descriptorIndex := 6, attributes := #[] }, { accessFlags := 16409, nameIndex := 42, descriptorIndex := 6, attributes := #[] }, { accessFlags := 16409, nameIndex := 45, descriptorIndex := 6, attributes := #[] }, { accessFlags := 16409, nameIndex := 48, descriptorIndex := 6, attributes := #[] }, { accessFlags := 16409, nameIndex := 51, descriptorIndex := 6, attributes := #[] }, { accessFlags := 16409, nameIndex := 54, descriptorIndex := 6, attributes := #[] }, { accessFlags := 16409, nameIndex := 57, descriptorIndex := 6, attributes := #[] }, { accessFlags := 16409, nameIndex := 60, descriptorIndex := 6, attributes := #[] }, { accessFlags := 16409, nameIndex := 63, descriptorIndex := 6, attributes := #[] }, { accessFlags := 16409, nameIndex := 66, descriptorIndex := 6, attributes := #[] }, { accessFlags := 18, nameIndex := 88, descriptorIndex := 89, attributes := #[] }, { accessFlags := 18, nameIndex := 92, descriptorIndex := 89, attributes := #[] }, { accessFlags := 4122, nameIndex := 69, descriptorIndex := 70, attributes := #[] }])
  fields := #[{ name := "AAA", type := (.object "com/example/facility_atlas/facilityatlas/Rating"), accessFlags := 16409, slot := 0, constantValue := 0 }, { name := "AA_PLUS", type := (.object "com/example/facility_atlas/facilityatlas/Rating"), accessFlags := 16409, slot := 1, constantValue := 0 }, { name := "AA", type := (.object "com/example/facility_atlas/facilityatlas/Rating"), accessFlags := 16409, slot := 2, constantValue := 0 }, { name := "AA_MINUS", type := (.object "com/example/facility_atlas/facilityatlas/Rating"), accessFlags := 16409, slot := 3, constantValue := 0 }, { name := "A_PLUS", type := (.object "com/example/facility_atlas/facilityatlas/Rating"), accessFlags := 16409, slot := 4, constantValue := 0 }, { name := "A", type := (.object "com/example/facility_atlas/facilityatlas/Rating"), accessFlags := 16409, slot := 5, constantValue := 0 }, { name := "A_MINUS", type := (.object "com/example/facility_atlas/facilityatlas/Rating"), accessFlags := 16409, slot := 6, constantValue := 0 }, { name := "BBB_PLUS", type := (.object "com/example/facility_atlas/facilityatlas/Rating"), accessFlags := 16409, slot := 7, constantValue := 0 }, { name := "BBB", type := (.object "com/example/facility_atlas/facilityatlas/Rating"), accessFlags := 16409, slot := 8, constantValue := 0 }, { name := "BBB_MINUS", type := (.object "com/example/facility_atlas/facilityatlas/Rating"), accessFlags := 16409, slot := 9, constantValue := 0 }, { name := "BB_PLUS", type := (.object "com/example/facility_atlas/facilityatlas/Rating"), accessFlags := 16409, slot := 10, constantValue := 0 }, { name := "BB", type := (.object "com/example/facility_atlas/facilityatlas/Rating"), accessFlags := 16409, slot := 11, constantValue := 0 }, { name := "BB_MINUS", type := (.object "com/example/facility_atlas/facilityatlas/Rating"), accessFlags := 16409, slot := 12, constantValue := 0 }, { name := "B_PLUS", type := (.object "com/example/facility_atlas/facilityatlas/Rating"), accessFlags := 16409, slot := 13, constantValue := 0 }, { name := "B", type := (.object "com/example/facility_atlas/facilityatlas/Rating"), accessFlags := 16409, slot := 14, constantValue := 0 }, { name := "B_MINUS", type := (.object "com/example/facility_atlas/facilityatlas/Rating"), accessFlags := 16409, slot := 15, constantValue := 0 }, { name := "CCC_PLUS", type := (.object "com/example/facility_atlas/facilityatlas/Rating"), accessFlags := 16409, slot := 16, constantValue := 0 }, { name := "CCC", type := (.object "com/example/facility_atlas/facilityatlas/Rating"), accessFlags := 16409, slot := 17, constantValue := 0 }, { name := "CCC_MINUS", type := (.object "com/example/facility_atlas/facilityatlas/Rating"), accessFlags := 16409, slot := 18, constantValue := 0 }, { name := "CC", type := (.object "com/example/facility_atlas/facilityatlas/Rating"), accessFlags := 16409, slot := 19, constantValue := 0 }, { name := "C", type := (.object "com/example/facility_atlas/facilityatlas/Rating"), accessFlags := 16409, slot := 20, constantValue := 0 }, { name := "standardAndPoors", type := (.object "java/lang/String"), accessFlags := 18, slot := 3, constantValue := 0 }, { name := "moodys", type := (.object "java/lang/String"), accessFlags := 18, slot := 4, constantValue := 0 }, { name := "$VALUES", type := (.array (.object "com/example/facility_atlas/facilityatlas/Rating")), accessFlags := 4122, slot := 21, constantValue := 0 }]
  methods := #[k6m0]
  instanceTypes := #[(.object "java/lang/String"), .int, .int, (.object "java/lang/String"), (.object "java/lang/String")]
  staticTypes := #[(.object "com/example/facility_atlas/facilityatlas/Rating"), (.object "com/example/facility_atlas/facilityatlas/Rating"), (.object "com/example/facility_atlas/facilityatlas/Rating"), (.object "com/example/facility_atlas/facilityatlas/Rating"), (.object "com/example/facility_atlas/facilityatlas/Rating"), (.object "com/example/facility_atlas/facilityatlas/Rating"), (.object "com/example/facility_atlas/facilityatlas/Rating"), (.object "com/example/facility_atlas/facilityatlas/Rating"), (.object "com/example/facility_atlas/facilityatlas/Rating"), (.object "com/example/facility_atlas/facilityatlas/Rating"), (.object "com/example/facility_atlas/facilityatlas/Rating"), (.object "com/example/facility_atlas/facilityatlas/Rating"), (.object "com/example/facility_atlas/facilityatlas/Rating"), (.object "com/example/facility_atlas/facilityatlas/Rating"), (.object "com/example/facility_atlas/facilityatlas/Rating"), (.object "com/example/facility_atlas/facilityatlas/Rating"), (.object "com/example/facility_atlas/facilityatlas/Rating"), (.object "com/example/facility_atlas/facilityatlas/Rating"), (.object "com/example/facility_atlas/facilityatlas/Rating"), (.object "com/example/facility_atlas/facilityatlas/Rating"), (.object "com/example/facility_atlas/facilityatlas/Rating"), (.array (.object "com/example/facility_atlas/facilityatlas/Rating"))]
  resolved := Array.replicate 262 none
  statics := some 0 }

def pool7 : Array CpInfo := pool [(1, .class_ 2), (0, u "java/lang/Math"), (1, .class_ 6), (1, u "java/lang/Object"), (0, u "<init>"), (0, u "()V"), (89, .class_ 100), (1, u "java/lang/Math$RandomNumberGeneratorHolder"), (23, u "abs"), (34, u "(I)I"), (12, u "negativeZeroFloatBits"), (0, u "J"), (2, u "negativeZeroDoubleBits"), (68, u "$assertionsDisabled"), (0, u "Z"), (91, u "twoToTheDoubleScaleDown"), (0, u "D"), (4, u "twoToTheDoubleScaleUp"), (9, u "E"), (3, u "PI"), (2, u "TAU"), (2, u "DEGREES_TO_RADIANS"), (0, u "RADIANS_TO_DEGREES")] 94

def k7m0 : Method := { name := "<init>", desc := "()V", sig := { parameters := [], returnType := none }, accessFlags := 2, code := none }
def k7c1 : Code := { maxStack := 1, maxLocals := 1, code := jdk_29_method_59_code, exceptionTable := #[], attributes := #[] }
def k7m1 : Method := { name := "abs", desc := "(I)I", sig := { parameters := [.int], returnType := some .int }, accessFlags := 9, code := some k7c1 }
/-- java/lang/Math -/
def k7 : Class := { plain "java/lang/Math" (some 0) with
  accessFlags := 49
  interfaces := #[]
  cf := some (fileOf pool7 1 #[.nestMembers #[98]] #[{ accessFlags := 2, nameIndex := 7, descriptorIndex := 8, attributes := #[] }, { accessFlags := 9, nameIndex := 124, descriptorIndex := 159, attributes := #[] }] 49 4 #[] #[{ accessFlags := 25, nameIndex := 354, descriptorIndex := 339, attributes := #[] }, { accessFlags := 25, nameIndex := 358, descriptorIndex := 339, attributes := #[] }, { accessFlags := 25, nameIndex := 361, descriptorIndex := 339, attributes := #[] }, { accessFlags := 26, nameIndex := 364, descriptorIndex := 339, attributes := #[] }, { accessFlags := 26, nameIndex := 365, descriptorIndex := 339, attributes := #[] }, { accessFlags := 26, nameIndex := 172, descriptorIndex := 173, attributes := #[] }, { accessFlags := 26, nameIndex := 176, descriptorIndex := 173, attributes := #[] }, { accessFlags := 8, nameIndex := 344, descriptorIndex := 339, attributes := #[] }, { accessFlags := 8, nameIndex := 338, descriptorIndex := 339, attributes := #[] }, { accessFlags := 4120, nameIndex := 245, descriptorIndex := 246, attributes := #[] }])
  fields := #[{ name := "E", type := .double, accessFlags := 25, slot := 0, constantValue := 0 }, { name := "PI", type := .double, accessFlags := 25, slot := 1, constantValue := 0 }, { name := "TAU", type := .double, accessFlags := 25, slot := 2, constantValue := 0 }, { name := "DEGREES_TO_RADIANS", type := .double, accessFlags := 26, slot := 3, constantValue := 0 }, { name := "RADIANS_TO_DEGREES", type := .double, accessFlags := 26, slot := 4, constantValue := 0 }, { name := "negativeZeroFloatBits", type := .long, accessFlags := 26, slot := 5, constantValue := 0 }, { name := "negativeZeroDoubleBits", type := .long, accessFlags := 26, slot := 6, constantValue := 0 }, { name := "twoToTheDoubleScaleUp", type := .double, accessFlags := 8, slot := 7, constantValue := 0 }, { name := "twoToTheDoubleScaleDown", type := .double, accessFlags := 8, slot := 8, constantValue := 0 }, { name := "$assertionsDisabled", type := .boolean, accessFlags := 4120, slot := 9, constantValue := 0 }]
  methods := #[k7m0, k7m1]
  instanceTypes := #[]
  staticTypes := #[.double, .double, .double, .double, .double, .long, .long, .double, .double, .boolean]
  resolved := Array.replicate 460 none
  statics := none }

def pool8 : Array CpInfo := pool [(1, u "java/lang/Cloneable"), (0, .class_ 1), (0, u "java/lang/Object"), (0, .class_ 3)] 3

/-- java/lang/Cloneable -/
def k8 : Class := { plain "java/lang/Cloneable" (some 0) with
  accessFlags := 1537
  interfaces := #[]
  cf := some (fileOf pool8 2 #[] #[] 1537 4 #[] #[])
  fields := #[]
  methods := #[]
  instanceTypes := #[]
  staticTypes := #[]
  resolved := Array.replicate 8 none
  statics := none }

/-- the primitive byte -/
def k9 : Class := { plain "byte" none with kind := .primitive 'B', accessFlags := 0x411 }
/-- [B -/
def k10 : Class := { plain "[B" (some 0) with kind := .array 9 .byte, interfaces := #[8, 4], accessFlags := 1041 }

/-- the primitive int -/
def k11 : Class := { plain "int" none with kind := .primitive 'I', accessFlags := 0x411 }
/-- [I -/
def k12 : Class := { plain "[I" (some 0) with kind := .array 11 .int, interfaces := #[8, 4], accessFlags := 1041 }

def heap : Heap := #[{ cls := 6, slots := #[.ref 1, .ref 4, .ref 7, .ref 2, .ref 8, .ref 5, .ref 10, .ref 18, .ref 6, .ref 19, .ref 11, .ref 16, .ref 12, .ref 9, .ref 3, .ref 13, .ref 20, .ref 21, .ref 15, .ref 14, .ref 17, .null], vm := .statics 6 },
  { cls := 6, slots := #[.null, .int 0, .int 0, .null, .null], vm := .none },
  { cls := 6, slots := #[.null, .int 3, .int 0, .null, .null], vm := .none },
  { cls := 6, slots := #[.null, .int 14, .int 0, .null, .null], vm := .none },
  { cls := 6, slots := #[.null, .int 1, .int 0, .null, .null], vm := .none },
  { cls := 6, slots := #[.null, .int 5, .int 0, .null, .null], vm := .none },
  { cls := 6, slots := #[.null, .int 8, .int 0, .null, .null], vm := .none },
  { cls := 6, slots := #[.null, .int 2, .int 0, .null, .null], vm := .none },
  { cls := 6, slots := #[.null, .int 4, .int 0, .null, .null], vm := .none },
  { cls := 6, slots := #[.null, .int 13, .int 0, .null, .null], vm := .none },
  { cls := 6, slots := #[.null, .int 6, .int 0, .null, .null], vm := .none },
  { cls := 6, slots := #[.null, .int 10, .int 0, .null, .null], vm := .none },
  { cls := 6, slots := #[.null, .int 12, .int 0, .null, .null], vm := .none },
  { cls := 6, slots := #[.null, .int 15, .int 0, .null, .null], vm := .none },
  { cls := 6, slots := #[.null, .int 19, .int 0, .null, .null], vm := .none },
  { cls := 6, slots := #[.null, .int 18, .int 0, .null, .null], vm := .none },
  { cls := 6, slots := #[.null, .int 11, .int 0, .null, .null], vm := .none },
  { cls := 6, slots := #[.null, .int 20, .int 0, .null, .null], vm := .none },
  { cls := 6, slots := #[.null, .int 7, .int 0, .null, .null], vm := .none },
  { cls := 6, slots := #[.null, .int 9, .int 0, .null, .null], vm := .none },
  { cls := 6, slots := #[.null, .int 16, .int 0, .null, .null], vm := .none },
  { cls := 6, slots := #[.null, .int 17, .int 0, .null, .null], vm := .none }]
def classes : Array Class := #[k0, k1, k2, k3, k4, k5, k6, k7, k8, k9, k10, k11, k12]
def interned : List (Array UInt16 × Addr) := []
def slotsUsed : Nat := 127
def theMethod : MethodId := ⟨1, 2⟩
def args0 : Array Value := #[.int 5, .int 1]
def aboutOver (below : List Frame) : State where
  vm := { classes := classes, interned := interned.toArray }
  heap := heap
  slotsUsed := slotsUsed
  threads := #[{ frames := .invoking theMethod args0 :: below }]
def below0 : List Frame := [.native { method := ⟨0, 0⟩, args := #[] }]
def about1 : State := aboutOver below0
def p0 : Program := .bare "" "" ""
def e0 : Env := launch0.env 0 0 0
theorem w_frames : about1.frames = Frame.invoking theMethod args0 :: below0 := rfl
set_option maxRecDepth 65536 in
theorem w_args : argsFit about1.vm theMethod args0 = true := by decide +kernel
set_option maxRecDepth 65536 in
theorem w_heap : heapFits about1 = true := by decide +kernel
set_option maxRecDepth 65536 in
theorem w_runnable : about1.curStatus? = some .runnable := by decide +kernel
set_option maxRecDepth 65536 in
theorem w_alone : about1.alone = true := by decide +kernel
set_option maxRecDepth 65536 in
theorem w_named : about1.methodNamed? x = some theMethod := by decide +kernel
set_option maxRecDepth 65536 in
theorem w_hears : about1.hears theMethod below0 = true := by decide +kernel
set_option maxRecDepth 65536 in
theorem w_ripe : about1.ripe theMethod args0 below0 = true := by decide +kernel
theorem w_running : about1.status = .running := rfl
set_option maxRecDepth 65536 in
theorem w_room : about1.hasRoom e0.platform room_1 = true :=
  launch0.hasRoom_least _ room_1 (by decide +kernel) (by decide +kernel) (by decide +kernel) (by decide +kernel) (by decide +kernel) (by decide +kernel)
theorem allAtoms_all (ts : List Jvm.Cond) (a : Array Jvm.Value) (st : Jvm.State) : (allAtoms ts).before a st = ts.all (fun c => c.before a st) := by
  induction ts with
  | nil => rfl
  | cons c t ih =>
    show (Jvm.Cond.and c (allAtoms t)).before a st = _
    rw [Jvm.Cond.before_and, ih, List.all_cons]
def words1 : List Jvm.Cond := Jvm.Cond.code x code maxLocals ret :: tables_1
/-- a 'code' word, met by the world's own term for the bytes: nothing is compared byte by byte -/
theorem code_word {y : MethodName} {bytes : ByteArray} {mx : Nat} {rt : Option FieldType} {a : Array Value} {s : State} {m : MethodId} {meth : Method} {c : Code} (h1 : s.methodNamed? y = some m) (h2 : s.vm.method? m = some meth) (h3 : meth.code = some c) (h4 : c.code = bytes)
    (h5 : (c.maxLocals == mx && c.exceptionTable.isEmpty && decide (c.maxStack ≤ mostOperands) && decide (meth.sig.returnType = rt) && !meth.locks && decide (parseMethodDescriptor y.desc = some meth.sig)) = true) : (Jvm.Cond.code y bytes mx rt).before a s = true := by
  simp only [Bool.and_eq_true, beq_iff_eq, Bool.not_eq_true', decide_eq_true_eq] at h5
  obtain ⟨⟨⟨⟨⟨g1, g2⟩, g3⟩, g4⟩, g5⟩, g6⟩ := h5
  simp [Cond.before, Cond.holds, Cond.value, h1, h2, h3, h4, g1, g2, g3, g4, g5, g6]
def isCode : Jvm.Cond → Bool
  | .code _ _ _ _ => true
  | _ => false
theorem all_split {L : List Jvm.Cond} {P : Jvm.Cond → Bool} (h1 : L.all (fun c => isCode c || P c) = true) (h2 : ∀ c ∈ L.filter isCode, P c = true) : L.all P = true := by
  refine List.all_eq_true.mpr fun c hc => ?_
  have h := List.all_eq_true.mp h1 c hc
  rcases Bool.eq_false_or_eq_true (isCode c) with hi | hi
  · exact h2 c (List.mem_filter.mpr ⟨hc, hi⟩)
  · simpa [hi] using h
set_option maxRecDepth 65536 in
theorem w_c0 : (Jvm.Cond.code x code maxLocals ret).before args0 about1 = true := code_word (m := ⟨1, 2⟩) (meth := k1m2) (c := k1c2) (by decide +kernel) rfl rfl rfl (by decide +kernel)
set_option maxRecDepth 65536 in
theorem w_c1 : (Jvm.Cond.code ({ cls := "com/example/facility_atlas/facilityatlas/RatingGradesApartPinLaw", name := "grade", desc := "(I)Lcom/example/facility_atlas/facilityatlas/Rating;" } : Jvm.MethodName) method_2_code (1 : Nat) (Option.some (Jvm.ClassFile.FieldType.object "com/example/facility_atlas/facilityatlas/Rating"))).before args0 about1 = true := code_word (m := ⟨1, 1⟩) (meth := k1m1) (c := k1c1) (by decide +kernel) rfl rfl rfl (by decide +kernel)
set_option maxRecDepth 65536 in
theorem w_c2 : (Jvm.Cond.code ({ cls := "com/example/facility_atlas/facilityatlas/Rating", name := "gradesApart", desc := "(Lcom/example/facility_atlas/facilityatlas/Rating;)I" } : Jvm.MethodName) prog_47_method_6_code (2 : Nat) (Option.some Jvm.ClassFile.FieldType.int)).before args0 about1 = true := code_word (m := ⟨6, 0⟩) (meth := k6m0) (c := k6c0) (by decide +kernel) rfl rfl rfl (by decide +kernel)
set_option maxRecDepth 65536 in
theorem w_c3 : (Jvm.Cond.code ({ cls := "java/lang/Enum", name := "ordinal", desc := "()I" } : Jvm.MethodName) jdk_37_method_2_code (1 : Nat) (Option.some Jvm.ClassFile.FieldType.int)).before args0 about1 = true := code_word (m := ⟨5, 0⟩) (meth := k5m0) (c := k5c0) (by decide +kernel) rfl rfl rfl (by decide +kernel)
set_option maxRecDepth 65536 in
theorem w_c4 : (Jvm.Cond.code ({ cls := "java/lang/Math", name := "abs", desc := "(I)I" } : Jvm.MethodName) jdk_29_method_59_code (1 : Nat) (Option.some Jvm.ClassFile.FieldType.int)).before args0 about1 = true := code_word (m := ⟨7, 1⟩) (meth := k7m1) (c := k7c1) (by decide +kernel) rfl rfl rfl (by decide +kernel)
def codes1 : List Jvm.Cond := [Jvm.Cond.code x code maxLocals ret, Jvm.Cond.code ({ cls := "com/example/facility_atlas/facilityatlas/RatingGradesApartPinLaw", name := "grade", desc := "(I)Lcom/example/facility_atlas/facilityatlas/Rating;" } : Jvm.MethodName) method_2_code (1 : Nat) (Option.some (Jvm.ClassFile.FieldType.object "com/example/facility_atlas/facilityatlas/Rating")), Jvm.Cond.code ({ cls := "com/example/facility_atlas/facilityatlas/Rating", name := "gradesApart", desc := "(Lcom/example/facility_atlas/facilityatlas/Rating;)I" } : Jvm.MethodName) prog_47_method_6_code (2 : Nat) (Option.some Jvm.ClassFile.FieldType.int), Jvm.Cond.code ({ cls := "java/lang/Enum", name := "ordinal", desc := "()I" } : Jvm.MethodName) jdk_37_method_2_code (1 : Nat) (Option.some Jvm.ClassFile.FieldType.int), Jvm.Cond.code ({ cls := "java/lang/Math", name := "abs", desc := "(I)I" } : Jvm.MethodName) jdk_29_method_59_code (1 : Nat) (Option.some Jvm.ClassFile.FieldType.int)]
set_option maxRecDepth 65536 in
theorem codes_eq : words1.filter isCode = codes1 := rfl
theorem w_codes : ∀ c ∈ words1.filter isCode, c.before args0 about1 = true := by
  rw [codes_eq]
  intro c hc
  simp only [codes1, List.mem_cons, List.not_mem_nil, or_false] at hc
  rcases hc with rfl | rfl | rfl | rfl | rfl
  · exact w_c0
  · exact w_c1
  · exact w_c2
  · exact w_c3
  · exact w_c4
set_option maxRecDepth 65536 in
theorem w_t1 : (words1.take 24).all (fun c => isCode c || c.before args0 about1) = true := by decide +kernel
set_option maxRecDepth 65536 in
theorem w_t2 : ((words1.drop 24).take 24).all (fun c => isCode c || c.before args0 about1) = true := by decide +kernel
set_option maxRecDepth 65536 in
theorem w_t3 : ((words1.drop 24).drop 24).all (fun c => isCode c || c.before args0 about1) = true := by decide +kernel
theorem w_tables : (allAtoms (Jvm.Cond.code x code maxLocals ret :: tables_1)).before args0 about1 = true := by
  rw [allAtoms_all]
  show words1.all (fun c => c.before args0 about1) = true
  refine all_split ?_ w_codes
  rw [← List.take_append_drop 24 words1, List.all_append, w_t1, ← List.take_append_drop 24 (words1.drop 24), List.all_append, w_t2, w_t3]
  rfl
set_option maxRecDepth 65536 in
theorem w_case : (Jvm.Cond.and given_1 narrow_1).before args0 about1 = true := by decide +kernel
theorem w_applies : (headSpec (Jvm.Cond.code x code maxLocals ret :: tables_1) room_1).applies x e0.platform about1 = true :=
  (Spec.applies_iff w_frames).mpr ⟨w_running, w_runnable, w_alone, w_named, w_hears, w_ripe, w_room, w_tables⟩
theorem atStart : AtStart classFile x code maxLocals ret World_1 tables_1 room_1 Calls_1 rest_1 Pre_1 launch0 p0 e0 about1 theMethod args0 below0 :=
  ⟨lists_1, trivial, launch0.admits_env _ _ _, launch0.least_env, fairChoices_fair.cas, fairChoices_fair.clock, w_frames, w_args, w_heap, w_applies, trivial, trivial, w_case⟩
end start1
theorem witness_1 : WitnessClaimed_1 := ⟨start1.p0, start1.e0, start1.about1, start1.theMethod, start1.args0, start1.below0, start1.atStart⟩
end Jvm.Pilot.@@N@@
