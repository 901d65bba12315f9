import JvmDerived
import JvmDerived.Pilot.@@N@@Statement
import JvmDerived.Pilot.@@N@@Code
set_option linter.unusedVariables false
set_option linter.unusedSimpArgs false
namespace Jvm.RoadKit
open Sem ClassFile Op Lib Jvm.Stand Jvm.Free Jvm.LawKit
section New
variable {p : Program} {l : Launch} {e : Env} {R : Room} {s : State} {m : MethodId} {args : Array Value} {below : List Frame} {meth : Method} {c : Code} {T : State} {locs : List Loc} {cells slots : Nat}
theorem retI (X : Stand p l e R s m args below meth c T locs cells slots) (hx : p.tables.exec = Jvm.exec) {pc : Nat} {Ls : Array Slot} {z : Int32} {rest : List Value} (hret : meth.sig.returnType = some .int) (hd : decode c.code pc = .ok (.ireturn, 1)) {fs : List Frame}
    (hl : ∀ (f : JFrame) (acts : List Action), f.method = m → f.locked = none → f.entered = [] → (doReturn e (T.setTop f) acts (some (.int z))).1 = T.setFrames fs) : Steps p.tables e below (T.setTop (mkF m pc Ls (.int z :: rest))) (T.setFrames fs) := by
  have hm' : T.vm.method? m = some meth := X.method'
  have hn : narrow .int (.int z) = .int z := rfl
  show Steps p.tables e below (T.setTop { method := m, pc := pc, locals := Ls, stack := _ :: rest, locked := none }) _
  jvm_step X.here [X.here.top, hx, hd, hm', hret, hn]
  first | (intro acts; rw [hl _ acts rfl rfl rfl]) | rw [hl _ _ rfl rfl rfl]
  exact Steps.refl _
end New
end Jvm.RoadKit
namespace Jvm.Pilot.@@N@@
open Jvm Jvm.ClassFile Sem Op Lib Jvm.Free Jvm.Stand Jvm.LawKit Jvm.RoadKit Bundle Jvm.Pilot.@@N@@.Jvm.D
theorem own_eqI {args : Array Value} {s : State} {t : Term} {k : Int32} (h : (Jvm.Cond.eq t (.int k)).value args s none s [] = some true) : t.eval args s none [] s = some (.int k) := by
  obtain ⟨x, y, hx, hy, -, k2⟩ := cmp_v (Or.inl h)
  obtain rfl : y = .int k := (Option.some.inj ((Term.int_eval k).symm.trans hy)).symm
  obtain ⟨z, rfl⟩ := k2
  have := gotT (Cond.eq_ints hx (Term.int_eval k)) h
  rw [hx, this]
def Q0 (n0 : Nat) (v : Option Value) (L : List Loc) : Prop := v = some (.int 1) ∧ Fr n0 L
theorem own_mod21 (x : Int32) : ((x &&& (2147483647 : Int32)) % (21 : Int32)) = (0 : Int32) ∨ ((x &&& (2147483647 : Int32)) % (21 : Int32)) = (1 : Int32) ∨ ((x &&& (2147483647 : Int32)) % (21 : Int32)) = (2 : Int32) ∨ ((x &&& (2147483647 : Int32)) % (21 : Int32)) = (3 : Int32) ∨ ((x &&& (2147483647 : Int32)) % (21 : Int32)) = (4 : Int32) ∨ ((x &&& (2147483647 : Int32)) % (21 : Int32)) = (5 : Int32) ∨ ((x &&& (2147483647 : Int32)) % (21 : Int32)) = (6 : Int32) ∨ ((x &&& (2147483647 : Int32)) % (21 : Int32)) = (7 : Int32) ∨ ((x &&& (2147483647 : Int32)) % (21 : Int32)) = (8 : Int32) ∨ ((x &&& (2147483647 : Int32)) % (21 : Int32)) = (9 : Int32) ∨ ((x &&& (2147483647 : Int32)) % (21 : Int32)) = (10 : Int32) ∨ ((x &&& (2147483647 : Int32)) % (21 : Int32)) = (11 : Int32) ∨ ((x &&& (2147483647 : Int32)) % (21 : Int32)) = (12 : Int32) ∨ ((x &&& (2147483647 : Int32)) % (21 : Int32)) = (13 : Int32) ∨ ((x &&& (2147483647 : Int32)) % (21 : Int32)) = (14 : Int32) ∨ ((x &&& (2147483647 : Int32)) % (21 : Int32)) = (15 : Int32) ∨ ((x &&& (2147483647 : Int32)) % (21 : Int32)) = (16 : Int32) ∨ ((x &&& (2147483647 : Int32)) % (21 : Int32)) = (17 : Int32) ∨ ((x &&& (2147483647 : Int32)) % (21 : Int32)) = (18 : Int32) ∨ ((x &&& (2147483647 : Int32)) % (21 : Int32)) = (19 : Int32) ∨ ((x &&& (2147483647 : Int32)) % (21 : Int32)) = (20 : Int32) := by
  have e1 := c_mask x 2147483647 31 (by decide) (by decide)
  have e2 := (c_irem (x &&& (2147483647 : Int32)) (21 : Int32) 21 (by decide)).1 (by omega)
  generalize ((x &&& (2147483647 : Int32)) % (21 : Int32)) = r at *
  have hd : r.toInt = 0 ∨ r.toInt = 1 ∨ r.toInt = 2 ∨ r.toInt = 3 ∨ r.toInt = 4 ∨ r.toInt = 5 ∨ r.toInt = 6 ∨ r.toInt = 7 ∨ r.toInt = 8 ∨ r.toInt = 9 ∨ r.toInt = 10 ∨ r.toInt = 11 ∨ r.toInt = 12 ∨ r.toInt = 13 ∨ r.toInt = 14 ∨ r.toInt = 15 ∨ r.toInt = 16 ∨ r.toInt = 17 ∨ r.toInt = 18 ∨ r.toInt = 19 ∨ r.toInt = 20 := by omega
  rcases hd with h | h | h | h | h | h | h | h | h | h | h | h | h | h | h | h | h | h | h | h | h
  · exact Or.inl (Int32.toInt_inj.mp (h.trans (by decide)))
  · exact Or.inr (Or.inl (Int32.toInt_inj.mp (h.trans (by decide))))
  · exact Or.inr (Or.inr (Or.inl (Int32.toInt_inj.mp (h.trans (by decide)))))
  · exact Or.inr (Or.inr (Or.inr (Or.inl (Int32.toInt_inj.mp (h.trans (by decide))))))
  · exact Or.inr (Or.inr (Or.inr (Or.inr (Or.inl (Int32.toInt_inj.mp (h.trans (by decide)))))))
  · exact Or.inr (Or.inr (Or.inr (Or.inr (Or.inr (Or.inl (Int32.toInt_inj.mp (h.trans (by decide))))))))
  · exact Or.inr (Or.inr (Or.inr (Or.inr (Or.inr (Or.inr (Or.inl (Int32.toInt_inj.mp (h.trans (by decide)))))))))
  · exact Or.inr (Or.inr (Or.inr (Or.inr (Or.inr (Or.inr (Or.inr (Or.inl (Int32.toInt_inj.mp (h.trans (by decide))))))))))
  · exact Or.inr (Or.inr (Or.inr (Or.inr (Or.inr (Or.inr (Or.inr (Or.inr (Or.inl (Int32.toInt_inj.mp (h.trans (by decide)))))))))))
  · exact Or.inr (Or.inr (Or.inr (Or.inr (Or.inr (Or.inr (Or.inr (Or.inr (Or.inr (Or.inl (Int32.toInt_inj.mp (h.trans (by decide))))))))))))
  · exact Or.inr (Or.inr (Or.inr (Or.inr (Or.inr (Or.inr (Or.inr (Or.inr (Or.inr (Or.inr (Or.inl (Int32.toInt_inj.mp (h.trans (by decide)))))))))))))
  · exact Or.inr (Or.inr (Or.inr (Or.inr (Or.inr (Or.inr (Or.inr (Or.inr (Or.inr (Or.inr (Or.inr (Or.inl (Int32.toInt_inj.mp (h.trans (by decide))))))))))))))
  · exact Or.inr (Or.inr (Or.inr (Or.inr (Or.inr (Or.inr (Or.inr (Or.inr (Or.inr (Or.inr (Or.inr (Or.inr (Or.inl (Int32.toInt_inj.mp (h.trans (by decide)))))))))))))))
  · exact Or.inr (Or.inr (Or.inr (Or.inr (Or.inr (Or.inr (Or.inr (Or.inr (Or.inr (Or.inr (Or.inr (Or.inr (Or.inr (Or.inl (Int32.toInt_inj.mp (h.trans (by decide))))))))))))))))
  · exact Or.inr (Or.inr (Or.inr (Or.inr (Or.inr (Or.inr (Or.inr (Or.inr (Or.inr (Or.inr (Or.inr (Or.inr (Or.inr (Or.inr (Or.inl (Int32.toInt_inj.mp (h.trans (by decide)))))))))))))))))
  · exact Or.inr (Or.inr (Or.inr (Or.inr (Or.inr (Or.inr (Or.inr (Or.inr (Or.inr (Or.inr (Or.inr (Or.inr (Or.inr (Or.inr (Or.inr (Or.inl (Int32.toInt_inj.mp (h.trans (by decide))))))))))))))))))
  · exact Or.inr (Or.inr (Or.inr (Or.inr (Or.inr (Or.inr (Or.inr (Or.inr (Or.inr (Or.inr (Or.inr (Or.inr (Or.inr (Or.inr (Or.inr (Or.inr (Or.inl (Int32.toInt_inj.mp (h.trans (by decide)))))))))))))))))))
  · exact Or.inr (Or.inr (Or.inr (Or.inr (Or.inr (Or.inr (Or.inr (Or.inr (Or.inr (Or.inr (Or.inr (Or.inr (Or.inr (Or.inr (Or.inr (Or.inr (Or.inr (Or.inl (Int32.toInt_inj.mp (h.trans (by decide))))))))))))))))))))
  · exact Or.inr (Or.inr (Or.inr (Or.inr (Or.inr (Or.inr (Or.inr (Or.inr (Or.inr (Or.inr (Or.inr (Or.inr (Or.inr (Or.inr (Or.inr (Or.inr (Or.inr (Or.inr (Or.inl (Int32.toInt_inj.mp (h.trans (by decide)))))))))))))))))))))
  · exact Or.inr (Or.inr (Or.inr (Or.inr (Or.inr (Or.inr (Or.inr (Or.inr (Or.inr (Or.inr (Or.inr (Or.inr (Or.inr (Or.inr (Or.inr (Or.inr (Or.inr (Or.inr (Or.inr (Or.inl (Int32.toInt_inj.mp (h.trans (by decide))))))))))))))))))))))
  · exact Or.inr (Or.inr (Or.inr (Or.inr (Or.inr (Or.inr (Or.inr (Or.inr (Or.inr (Or.inr (Or.inr (Or.inr (Or.inr (Or.inr (Or.inr (Or.inr (Or.inr (Or.inr (Or.inr (Or.inr (Int32.toInt_inj.mp (h.trans (by decide))))))))))))))))))))))
theorem own_b21 (x : Int32) : ¬ (((x &&& (2147483647 : Int32)) % (21 : Int32)) < (0 : Int32)) ∧ ((x &&& (2147483647 : Int32)) % (21 : Int32)) < (21 : Int32) := by
  rcases own_mod21 x with h | h | h | h | h | h | h | h | h | h | h | h | h | h | h | h | h | h | h | h | h <;> rw [h] <;> decide
theorem own_lt {a b : Int32} (ha : ¬ a < 0) (hb : ¬ b < 0) (h : a < b) : (a - b) < 0 := by
  rw [Int32.lt_iff_toInt_lt] at *
  have := c_isub a b; have := rng32 a; have := rng32 b; have := rng32 (a - b)
  have z : (0 : Int32).toInt = 0 := by decide
  omega
theorem own_ge {a b : Int32} (ha : ¬ a < 0) (hb : ¬ b < 0) (h : ¬ a < b) : ¬ (a - b) < 0 := by
  rw [Int32.lt_iff_toInt_lt] at *
  have := c_isub a b; have := rng32 a; have := rng32 b; have := rng32 (a - b)
  have z : (0 : Int32).toInt = 0 := by decide
  omega
theorem own_negsub (a b : Int32) : (-(a - b)) = (b - a) := by
  apply Int32.toInt_inj.mp
  have := c_ineg (a - b); have := c_isub a b; have := c_isub b a; have := rng32 (-(a - b)); have := rng32 (b - a)
  omega
theorem wd0 {a0 : Array Value} {Z : State} (hw : ∀ d ∈ tables_1, d.before a0 Z = true) : (Jvm.Cond.classLink "com/example/facility_atlas/facilityatlas/RatingIsAtOrAbovePinLaw" (7 : Nat) "com/example/facility_atlas/facilityatlas/Rating").before a0 Z = true := hw _ (List.mem_of_getElem? (i := 0) rfl)
theorem wd1 {a0 : Array Value} {Z : State} (hw : ∀ d ∈ tables_1, d.before a0 Z = true) : (Jvm.Cond.arrayOver (Jvm.ClassFile.FieldType.object "com/example/facility_atlas/facilityatlas/Rating")).before a0 Z = true := hw _ (List.mem_of_getElem? (i := 1) rfl)
theorem wd2 {a0 : Array Value} {Z : State} (hw : ∀ d ∈ tables_1, d.before a0 Z = true) : (Jvm.Cond.fieldLink "com/example/facility_atlas/facilityatlas/RatingIsAtOrAbovePinLaw" (9 : Nat) "com/example/facility_atlas/facilityatlas/Rating" "AAA" "Lcom/example/facility_atlas/facilityatlas/Rating;").before a0 Z = true := hw _ (List.mem_of_getElem? (i := 2) rfl)
theorem wd3 {a0 : Array Value} {Z : State} (hw : ∀ d ∈ tables_1, d.before a0 Z = true) : (Jvm.Cond.initialized "com/example/facility_atlas/facilityatlas/Rating").before a0 Z = true := hw _ (List.mem_of_getElem? (i := 3) rfl)
theorem wd4 {a0 : Array Value} {Z : State} (hw : ∀ d ∈ tables_1, d.before a0 Z = true) : (Jvm.Cond.laysStatic "com/example/facility_atlas/facilityatlas/Rating" "AAA" "Lcom/example/facility_atlas/facilityatlas/Rating;").before a0 Z = true := hw _ (List.mem_of_getElem? (i := 4) rfl)
theorem wd6 {a0 : Array Value} {Z : State} (hw : ∀ d ∈ tables_1, d.before a0 Z = true) : (Jvm.Cond.fieldLink "com/example/facility_atlas/facilityatlas/RatingIsAtOrAbovePinLaw" (13 : Nat) "com/example/facility_atlas/facilityatlas/Rating" "AA_PLUS" "Lcom/example/facility_atlas/facilityatlas/Rating;").before a0 Z = true := hw _ (List.mem_of_getElem? (i := 6) rfl)
theorem wd7 {a0 : Array Value} {Z : State} (hw : ∀ d ∈ tables_1, d.before a0 Z = true) : (Jvm.Cond.laysStatic "com/example/facility_atlas/facilityatlas/Rating" "AA_PLUS" "Lcom/example/facility_atlas/facilityatlas/Rating;").before a0 Z = true := hw _ (List.mem_of_getElem? (i := 7) rfl)
theorem wd8 {a0 : Array Value} {Z : State} (hw : ∀ d ∈ tables_1, d.before a0 Z = true) : (Jvm.Cond.fieldLink "com/example/facility_atlas/facilityatlas/RatingIsAtOrAbovePinLaw" (16 : Nat) "com/example/facility_atlas/facilityatlas/Rating" "AA" "Lcom/example/facility_atlas/facilityatlas/Rating;").before a0 Z = true := hw _ (List.mem_of_getElem? (i := 8) rfl)
theorem wd9 {a0 : Array Value} {Z : State} (hw : ∀ d ∈ tables_1, d.before a0 Z = true) : (Jvm.Cond.laysStatic "com/example/facility_atlas/facilityatlas/Rating" "AA" "Lcom/example/facility_atlas/facilityatlas/Rating;").before a0 Z = true := hw _ (List.mem_of_getElem? (i := 9) rfl)
theorem wd10 {a0 : Array Value} {Z : State} (hw : ∀ d ∈ tables_1, d.before a0 Z = true) : (Jvm.Cond.fieldLink "com/example/facility_atlas/facilityatlas/RatingIsAtOrAbovePinLaw" (19 : Nat) "com/example/facility_atlas/facilityatlas/Rating" "AA_MINUS" "Lcom/example/facility_atlas/facilityatlas/Rating;").before a0 Z = true := hw _ (List.mem_of_getElem? (i := 10) rfl)
theorem wd11 {a0 : Array Value} {Z : State} (hw : ∀ d ∈ tables_1, d.before a0 Z = true) : (Jvm.Cond.laysStatic "com/example/facility_atlas/facilityatlas/Rating" "AA_MINUS" "Lcom/example/facility_atlas/facilityatlas/Rating;").before a0 Z = true := hw _ (List.mem_of_getElem? (i := 11) rfl)
theorem wd12 {a0 : Array Value} {Z : State} (hw : ∀ d ∈ tables_1, d.before a0 Z = true) : (Jvm.Cond.fieldLink "com/example/facility_atlas/facilityatlas/RatingIsAtOrAbovePinLaw" (22 : Nat) "com/example/facility_atlas/facilityatlas/Rating" "A_PLUS" "Lcom/example/facility_atlas/facilityatlas/Rating;").before a0 Z = true := hw _ (List.mem_of_getElem? (i := 12) rfl)
theorem wd13 {a0 : Array Value} {Z : State} (hw : ∀ d ∈ tables_1, d.before a0 Z = true) : (Jvm.Cond.laysStatic "com/example/facility_atlas/facilityatlas/Rating" "A_PLUS" "Lcom/example/facility_atlas/facilityatlas/Rating;").before a0 Z = true := hw _ (List.mem_of_getElem? (i := 13) rfl)
theorem wd14 {a0 : Array Value} {Z : State} (hw : ∀ d ∈ tables_1, d.before a0 Z = true) : (Jvm.Cond.fieldLink "com/example/facility_atlas/facilityatlas/RatingIsAtOrAbovePinLaw" (25 : Nat) "com/example/facility_atlas/facilityatlas/Rating" "A" "Lcom/example/facility_atlas/facilityatlas/Rating;").before a0 Z = true := hw _ (List.mem_of_getElem? (i := 14) rfl)
theorem wd15 {a0 : Array Value} {Z : State} (hw : ∀ d ∈ tables_1, d.before a0 Z = true) : (Jvm.Cond.laysStatic "com/example/facility_atlas/facilityatlas/Rating" "A" "Lcom/example/facility_atlas/facilityatlas/Rating;").before a0 Z = true := hw _ (List.mem_of_getElem? (i := 15) rfl)
theorem wd16 {a0 : Array Value} {Z : State} (hw : ∀ d ∈ tables_1, d.before a0 Z = true) : (Jvm.Cond.fieldLink "com/example/facility_atlas/facilityatlas/RatingIsAtOrAbovePinLaw" (28 : Nat) "com/example/facility_atlas/facilityatlas/Rating" "A_MINUS" "Lcom/example/facility_atlas/facilityatlas/Rating;").before a0 Z = true := hw _ (List.mem_of_getElem? (i := 16) rfl)
theorem wd17 {a0 : Array Value} {Z : State} (hw : ∀ d ∈ tables_1, d.before a0 Z = true) : (Jvm.Cond.laysStatic "com/example/facility_atlas/facilityatlas/Rating" "A_MINUS" "Lcom/example/facility_atlas/facilityatlas/Rating;").before a0 Z = true := hw _ (List.mem_of_getElem? (i := 17) rfl)
theorem wd18 {a0 : Array Value} {Z : State} (hw : ∀ d ∈ tables_1, d.before a0 Z = true) : (Jvm.Cond.fieldLink "com/example/facility_atlas/facilityatlas/RatingIsAtOrAbovePinLaw" (31 : Nat) "com/example/facility_atlas/facilityatlas/Rating" "BBB_PLUS" "Lcom/example/facility_atlas/facilityatlas/Rating;").before a0 Z = true := hw _ (List.mem_of_getElem? (i := 18) rfl)
theorem wd19 {a0 : Array Value} {Z : State} (hw : ∀ d ∈ tables_1, d.before a0 Z = true) : (Jvm.Cond.laysStatic "com/example/facility_atlas/facilityatlas/Rating" "BBB_PLUS" "Lcom/example/facility_atlas/facilityatlas/Rating;").before a0 Z = true := hw _ (List.mem_of_getElem? (i := 19) rfl)
theorem wd20 {a0 : Array Value} {Z : State} (hw : ∀ d ∈ tables_1, d.before a0 Z = true) : (Jvm.Cond.fieldLink "com/example/facility_atlas/facilityatlas/RatingIsAtOrAbovePinLaw" (34 : Nat) "com/example/facility_atlas/facilityatlas/Rating" "BBB" "Lcom/example/facility_atlas/facilityatlas/Rating;").before a0 Z = true := hw _ (List.mem_of_getElem? (i := 20) rfl)
theorem wd21 {a0 : Array Value} {Z : State} (hw : ∀ d ∈ tables_1, d.before a0 Z = true) : (Jvm.Cond.laysStatic "com/example/facility_atlas/facilityatlas/Rating" "BBB" "Lcom/example/facility_atlas/facilityatlas/Rating;").before a0 Z = true := hw _ (List.mem_of_getElem? (i := 21) rfl)
theorem wd22 {a0 : Array Value} {Z : State} (hw : ∀ d ∈ tables_1, d.before a0 Z = true) : (Jvm.Cond.fieldLink "com/example/facility_atlas/facilityatlas/RatingIsAtOrAbovePinLaw" (37 : Nat) "com/example/facility_atlas/facilityatlas/Rating" "BBB_MINUS" "Lcom/example/facility_atlas/facilityatlas/Rating;").before a0 Z = true := hw _ (List.mem_of_getElem? (i := 22) rfl)
theorem wd23 {a0 : Array Value} {Z : State} (hw : ∀ d ∈ tables_1, d.before a0 Z = true) : (Jvm.Cond.laysStatic "com/example/facility_atlas/facilityatlas/Rating" "BBB_MINUS" "Lcom/example/facility_atlas/facilityatlas/Rating;").before a0 Z = true := hw _ (List.mem_of_getElem? (i := 23) rfl)
theorem wd24 {a0 : Array Value} {Z : State} (hw : ∀ d ∈ tables_1, d.before a0 Z = true) : (Jvm.Cond.fieldLink "com/example/facility_atlas/facilityatlas/RatingIsAtOrAbovePinLaw" (40 : Nat) "com/example/facility_atlas/facilityatlas/Rating" "BB_PLUS" "Lcom/example/facility_atlas/facilityatlas/Rating;").before a0 Z = true := hw _ (List.mem_of_getElem? (i := 24) rfl)
theorem wd25 {a0 : Array Value} {Z : State} (hw : ∀ d ∈ tables_1, d.before a0 Z = true) : (Jvm.Cond.laysStatic "com/example/facility_atlas/facilityatlas/Rating" "BB_PLUS" "Lcom/example/facility_atlas/facilityatlas/Rating;").before a0 Z = true := hw _ (List.mem_of_getElem? (i := 25) rfl)
theorem wd26 {a0 : Array Value} {Z : State} (hw : ∀ d ∈ tables_1, d.before a0 Z = true) : (Jvm.Cond.fieldLink "com/example/facility_atlas/facilityatlas/RatingIsAtOrAbovePinLaw" (43 : Nat) "com/example/facility_atlas/facilityatlas/Rating" "BB" "Lcom/example/facility_atlas/facilityatlas/Rating;").before a0 Z = true := hw _ (List.mem_of_getElem? (i := 26) rfl)
theorem wd27 {a0 : Array Value} {Z : State} (hw : ∀ d ∈ tables_1, d.before a0 Z = true) : (Jvm.Cond.laysStatic "com/example/facility_atlas/facilityatlas/Rating" "BB" "Lcom/example/facility_atlas/facilityatlas/Rating;").before a0 Z = true := hw _ (List.mem_of_getElem? (i := 27) rfl)
theorem wd28 {a0 : Array Value} {Z : State} (hw : ∀ d ∈ tables_1, d.before a0 Z = true) : (Jvm.Cond.fieldLink "com/example/facility_atlas/facilityatlas/RatingIsAtOrAbovePinLaw" (46 : Nat) "com/example/facility_atlas/facilityatlas/Rating" "BB_MINUS" "Lcom/example/facility_atlas/facilityatlas/Rating;").before a0 Z = true := hw _ (List.mem_of_getElem? (i := 28) rfl)
theorem wd29 {a0 : Array Value} {Z : State} (hw : ∀ d ∈ tables_1, d.before a0 Z = true) : (Jvm.Cond.laysStatic "com/example/facility_atlas/facilityatlas/Rating" "BB_MINUS" "Lcom/example/facility_atlas/facilityatlas/Rating;").before a0 Z = true := hw _ (List.mem_of_getElem? (i := 29) rfl)
theorem wd30 {a0 : Array Value} {Z : State} (hw : ∀ d ∈ tables_1, d.before a0 Z = true) : (Jvm.Cond.fieldLink "com/example/facility_atlas/facilityatlas/RatingIsAtOrAbovePinLaw" (49 : Nat) "com/example/facility_atlas/facilityatlas/Rating" "B_PLUS" "Lcom/example/facility_atlas/facilityatlas/Rating;").before a0 Z = true := hw _ (List.mem_of_getElem? (i := 30) rfl)
theorem wd31 {a0 : Array Value} {Z : State} (hw : ∀ d ∈ tables_1, d.before a0 Z = true) : (Jvm.Cond.laysStatic "com/example/facility_atlas/facilityatlas/Rating" "B_PLUS" "Lcom/example/facility_atlas/facilityatlas/Rating;").before a0 Z = true := hw _ (List.mem_of_getElem? (i := 31) rfl)
theorem wd32 {a0 : Array Value} {Z : State} (hw : ∀ d ∈ tables_1, d.before a0 Z = true) : (Jvm.Cond.fieldLink "com/example/facility_atlas/facilityatlas/RatingIsAtOrAbovePinLaw" (52 : Nat) "com/example/facility_atlas/facilityatlas/Rating" "B" "Lcom/example/facility_atlas/facilityatlas/Rating;").before a0 Z = true := hw _ (List.mem_of_getElem? (i := 32) rfl)
theorem wd33 {a0 : Array Value} {Z : State} (hw : ∀ d ∈ tables_1, d.before a0 Z = true) : (Jvm.Cond.laysStatic "com/example/facility_atlas/facilityatlas/Rating" "B" "Lcom/example/facility_atlas/facilityatlas/Rating;").before a0 Z = true := hw _ (List.mem_of_getElem? (i := 33) rfl)
theorem wd34 {a0 : Array Value} {Z : State} (hw : ∀ d ∈ tables_1, d.before a0 Z = true) : (Jvm.Cond.fieldLink "com/example/facility_atlas/facilityatlas/RatingIsAtOrAbovePinLaw" (55 : Nat) "com/example/facility_atlas/facilityatlas/Rating" "B_MINUS" "Lcom/example/facility_atlas/facilityatlas/Rating;").before a0 Z = true := hw _ (List.mem_of_getElem? (i := 34) rfl)
theorem wd35 {a0 : Array Value} {Z : State} (hw : ∀ d ∈ tables_1, d.before a0 Z = true) : (Jvm.Cond.laysStatic "com/example/facility_atlas/facilityatlas/Rating" "B_MINUS" "Lcom/example/facility_atlas/facilityatlas/Rating;").before a0 Z = true := hw _ (List.mem_of_getElem? (i := 35) rfl)
theorem wd36 {a0 : Array Value} {Z : State} (hw : ∀ d ∈ tables_1, d.before a0 Z = true) : (Jvm.Cond.fieldLink "com/example/facility_atlas/facilityatlas/RatingIsAtOrAbovePinLaw" (58 : Nat) "com/example/facility_atlas/facilityatlas/Rating" "CCC_PLUS" "Lcom/example/facility_atlas/facilityatlas/Rating;").before a0 Z = true := hw _ (List.mem_of_getElem? (i := 36) rfl)
theorem wd37 {a0 : Array Value} {Z : State} (hw : ∀ d ∈ tables_1, d.before a0 Z = true) : (Jvm.Cond.laysStatic "com/example/facility_atlas/facilityatlas/Rating" "CCC_PLUS" "Lcom/example/facility_atlas/facilityatlas/Rating;").before a0 Z = true := hw _ (List.mem_of_getElem? (i := 37) rfl)
theorem wd38 {a0 : Array Value} {Z : State} (hw : ∀ d ∈ tables_1, d.before a0 Z = true) : (Jvm.Cond.fieldLink "com/example/facility_atlas/facilityatlas/RatingIsAtOrAbovePinLaw" (61 : Nat) "com/example/facility_atlas/facilityatlas/Rating" "CCC" "Lcom/example/facility_atlas/facilityatlas/Rating;").before a0 Z = true := hw _ (List.mem_of_getElem? (i := 38) rfl)
theorem wd39 {a0 : Array Value} {Z : State} (hw : ∀ d ∈ tables_1, d.before a0 Z = true) : (Jvm.Cond.laysStatic "com/example/facility_atlas/facilityatlas/Rating" "CCC" "Lcom/example/facility_atlas/facilityatlas/Rating;").before a0 Z = true := hw _ (List.mem_of_getElem? (i := 39) rfl)
theorem wd40 {a0 : Array Value} {Z : State} (hw : ∀ d ∈ tables_1, d.before a0 Z = true) : (Jvm.Cond.fieldLink "com/example/facility_atlas/facilityatlas/RatingIsAtOrAbovePinLaw" (64 : Nat) "com/example/facility_atlas/facilityatlas/Rating" "CCC_MINUS" "Lcom/example/facility_atlas/facilityatlas/Rating;").before a0 Z = true := hw _ (List.mem_of_getElem? (i := 40) rfl)
theorem wd41 {a0 : Array Value} {Z : State} (hw : ∀ d ∈ tables_1, d.before a0 Z = true) : (Jvm.Cond.laysStatic "com/example/facility_atlas/facilityatlas/Rating" "CCC_MINUS" "Lcom/example/facility_atlas/facilityatlas/Rating;").before a0 Z = true := hw _ (List.mem_of_getElem? (i := 41) rfl)
theorem wd42 {a0 : Array Value} {Z : State} (hw : ∀ d ∈ tables_1, d.before a0 Z = true) : (Jvm.Cond.fieldLink "com/example/facility_atlas/facilityatlas/RatingIsAtOrAbovePinLaw" (67 : Nat) "com/example/facility_atlas/facilityatlas/Rating" "CC" "Lcom/example/facility_atlas/facilityatlas/Rating;").before a0 Z = true := hw _ (List.mem_of_getElem? (i := 42) rfl)
theorem wd43 {a0 : Array Value} {Z : State} (hw : ∀ d ∈ tables_1, d.before a0 Z = true) : (Jvm.Cond.laysStatic "com/example/facility_atlas/facilityatlas/Rating" "CC" "Lcom/example/facility_atlas/facilityatlas/Rating;").before a0 Z = true := hw _ (List.mem_of_getElem? (i := 43) rfl)
theorem wd44 {a0 : Array Value} {Z : State} (hw : ∀ d ∈ tables_1, d.before a0 Z = true) : (Jvm.Cond.fieldLink "com/example/facility_atlas/facilityatlas/RatingIsAtOrAbovePinLaw" (70 : Nat) "com/example/facility_atlas/facilityatlas/Rating" "C" "Lcom/example/facility_atlas/facilityatlas/Rating;").before a0 Z = true := hw _ (List.mem_of_getElem? (i := 44) rfl)
theorem wd45 {a0 : Array Value} {Z : State} (hw : ∀ d ∈ tables_1, d.before a0 Z = true) : (Jvm.Cond.laysStatic "com/example/facility_atlas/facilityatlas/Rating" "C" "Lcom/example/facility_atlas/facilityatlas/Rating;").before a0 Z = true := hw _ (List.mem_of_getElem? (i := 45) rfl)
theorem wd46 {a0 : Array Value} {Z : State} (hw : ∀ d ∈ tables_1, d.before a0 Z = true) : (Jvm.Cond.constant "com/example/facility_atlas/facilityatlas/RatingIsAtOrAbovePinLaw" (73 : Nat) (2147483647 : Int32)).before a0 Z = true := hw _ (List.mem_of_getElem? (i := 46) rfl)
theorem wd47 {a0 : Array Value} {Z : State} (hw : ∀ d ∈ tables_1, d.before a0 Z = true) : (Jvm.Cond.methodLink "com/example/facility_atlas/facilityatlas/RatingIsAtOrAbovePinLaw" (74 : Nat) ({ cls := "com/example/facility_atlas/facilityatlas/Rating", name := "isAtOrAbove", desc := "(Lcom/example/facility_atlas/facilityatlas/Rating;)Z" } : Jvm.MethodName)).before a0 Z = true := hw _ (List.mem_of_getElem? (i := 47) rfl)
theorem wd48 {a0 : Array Value} {Z : State} (hw : ∀ d ∈ tables_1, d.before a0 Z = true) : (Jvm.Cond.declares ({ cls := "com/example/facility_atlas/facilityatlas/Rating", name := "isAtOrAbove", desc := "(Lcom/example/facility_atlas/facilityatlas/Rating;)Z" } : Jvm.MethodName)).before a0 Z = true := hw _ (List.mem_of_getElem? (i := 48) rfl)
theorem wd49 {a0 : Array Value} {Z : State} (hw : ∀ d ∈ tables_1, d.before a0 Z = true) : (Jvm.Cond.instanceMethod ({ cls := "com/example/facility_atlas/facilityatlas/Rating", name := "isAtOrAbove", desc := "(Lcom/example/facility_atlas/facilityatlas/Rating;)Z" } : Jvm.MethodName)).before a0 Z = true := hw _ (List.mem_of_getElem? (i := 49) rfl)
theorem wd50 {a0 : Array Value} {Z : State} (hw : ∀ d ∈ tables_1, d.before a0 Z = true) : (Jvm.Cond.selects "com/example/facility_atlas/facilityatlas/Rating" ({ cls := "com/example/facility_atlas/facilityatlas/Rating", name := "isAtOrAbove", desc := "(Lcom/example/facility_atlas/facilityatlas/Rating;)Z" } : Jvm.MethodName) ({ cls := "com/example/facility_atlas/facilityatlas/Rating", name := "isAtOrAbove", desc := "(Lcom/example/facility_atlas/facilityatlas/Rating;)Z" } : Jvm.MethodName)).before a0 Z = true := hw _ (List.mem_of_getElem? (i := 50) rfl)
theorem wd51 {a0 : Array Value} {Z : State} (hw : ∀ d ∈ tables_1, d.before a0 Z = true) : (Jvm.Cond.code ({ cls := "com/example/facility_atlas/facilityatlas/Rating", name := "isAtOrAbove", desc := "(Lcom/example/facility_atlas/facilityatlas/Rating;)Z" } : Jvm.MethodName) prog_47_method_5_code (2 : Nat) (Option.some Jvm.ClassFile.FieldType.boolean)).before a0 Z = true := hw _ (List.mem_of_getElem? (i := 51) rfl)
theorem wd52 {a0 : Array Value} {Z : State} (hw : ∀ d ∈ tables_1, d.before a0 Z = true) : (Jvm.Cond.methodLink "com/example/facility_atlas/facilityatlas/Rating" (110 : Nat) ({ cls := "com/example/facility_atlas/facilityatlas/Rating", name := "ordinal", desc := "()I" } : Jvm.MethodName)).before a0 Z = true := hw _ (List.mem_of_getElem? (i := 52) rfl)
theorem wd53 {a0 : Array Value} {Z : State} (hw : ∀ d ∈ tables_1, d.before a0 Z = true) : (Jvm.Cond.sameMethod "com/example/facility_atlas/facilityatlas/Rating" "java/lang/Enum" "ordinal" "()I").before a0 Z = true := hw _ (List.mem_of_getElem? (i := 53) rfl)
theorem wd54 {a0 : Array Value} {Z : State} (hw : ∀ d ∈ tables_1, d.before a0 Z = true) : (Jvm.Cond.declares ({ cls := "java/lang/Enum", name := "ordinal", desc := "()I" } : Jvm.MethodName)).before a0 Z = true := hw _ (List.mem_of_getElem? (i := 54) rfl)
theorem wd55 {a0 : Array Value} {Z : State} (hw : ∀ d ∈ tables_1, d.before a0 Z = true) : (Jvm.Cond.instanceMethod ({ cls := "java/lang/Enum", name := "ordinal", desc := "()I" } : Jvm.MethodName)).before a0 Z = true := hw _ (List.mem_of_getElem? (i := 55) rfl)
theorem wd56 {a0 : Array Value} {Z : State} (hw : ∀ d ∈ tables_1, d.before a0 Z = true) : (Jvm.Cond.selects "com/example/facility_atlas/facilityatlas/Rating" ({ cls := "com/example/facility_atlas/facilityatlas/Rating", name := "ordinal", desc := "()I" } : Jvm.MethodName) ({ cls := "java/lang/Enum", name := "ordinal", desc := "()I" } : Jvm.MethodName)).before a0 Z = true := hw _ (List.mem_of_getElem? (i := 56) rfl)
theorem wd57 {a0 : Array Value} {Z : State} (hw : ∀ d ∈ tables_1, d.before a0 Z = true) : (Jvm.Cond.initialized "java/lang/Enum").before a0 Z = true := hw _ (List.mem_of_getElem? (i := 57) rfl)
theorem wd58 {a0 : Array Value} {Z : State} (hw : ∀ d ∈ tables_1, d.before a0 Z = true) : (Jvm.Cond.code ({ cls := "java/lang/Enum", name := "ordinal", desc := "()I" } : Jvm.MethodName) jdk_37_method_2_code (1 : Nat) (Option.some Jvm.ClassFile.FieldType.int)).before a0 Z = true := hw _ (List.mem_of_getElem? (i := 58) rfl)
theorem wd59 {a0 : Array Value} {Z : State} (hw : ∀ d ∈ tables_1, d.before a0 Z = true) : (Jvm.Cond.fieldLink "java/lang/Enum" (7 : Nat) "java/lang/Enum" "ordinal" "I").before a0 Z = true := hw _ (List.mem_of_getElem? (i := 59) rfl)
theorem d1_0 : decode prog_47_method_5_code 0 = .ok (.aload_n 0, 1) := by decide +kernel
theorem d1_1 : decode prog_47_method_5_code 1 = .ok (.invokevirtual 110, 3) := by decide +kernel
theorem d2_0 : decode jdk_37_method_2_code 0 = .ok (.aload_n 0, 1) := by decide +kernel
theorem d2_1 : decode jdk_37_method_2_code 1 = .ok (.getfield 7, 3) := by decide +kernel
theorem d2_4 : decode jdk_37_method_2_code 4 = .ok (.ireturn, 1) := by decide +kernel
theorem ef_2_0 (m : MethodId) (x0 : Addr) : entryFrame m #[(.ref x0)] 1 = mkF m 0 #[.val (.ref x0)] [] := by first | (simp [entryFrame, mkF, argsToLocals, Value.category]; done) | rfl
theorem pn_0 : plainName "java/lang/Enum" = true := by first | (simp [plainName, overriddenIn]; done) | decide +kernel
def Q_rm2_0 (Z : State) (w1 : Addr) (p2 : Int32) (h0 : Heap) (n0 : Nat) (v : Option Value) (h : Heap) (L : List Loc) : Prop := v = some (.int p2) ∧ Fr n0 L ∧ h = h0
set_option maxRecDepth 65536 in
set_option maxHeartbeats 40000000 in
theorem rm2_0 (l : Launch) (Z : State) (a0 : Array Value) (hw : ∀ d ∈ tables_1, d.before a0 Z = true) (ws : List Jvm.Cond) (w1 : Addr) (p2 : Int32) (h0 : Heap) (n0 : Nat) (OL0 : Old Z n0 h0) (pr1 : Fld Z Z.heap w1 "java/lang/Enum" "ordinal" "I" (.int p2)) :
    MetFree l (⟨"java/lang/Enum", "ordinal", "()I"⟩ : MethodName) (head1 (Jvm.Cond.code (⟨"java/lang/Enum", "ordinal", "()I"⟩ : MethodName) jdk_37_method_2_code 1 (some .int) :: ws) ({ frames := 0, cells := 0, slots := 0, locals := 0 } : Room)) (fun a U => a = #[(.ref w1)] ∧ Z.Warmed39 U.vm ∧ U.heap = h0) (fun _ _ _ _ _ => True) (fun _ U o U' => ∃ v L, o = .returned v ∧ Q_rm2_0 Z w1 p2 h0 n0 v U'.heap L ∧ FrameEnd U o U' L ({ frames := 0, cells := 0, slots := 0, locals := 0 } : Room).cells ({ frames := 0, cells := 0, slots := 0, locals := 0 } : Room).slots) := by
  refine MetFree.of_bodySF (plainFor_of_name pn_0) hisR ?_
  intro p e s m args below meth c s₁ Bd hml0 hP hK
  obtain ⟨rfl, hZ, hh⟩ := hP
  have hx := Bd.exec
  have hby := Bd.bytes
  have hml : c.maxLocals = 1 := hml0
  have hown : s.vm.findClass "java/lang/Enum" = some m.cls := findClass_of_methodNamed Bd.named
  have hnm := (name_of_methodNamed Bd.named Bd.method).1
  have X0 : Stand p l e ({ frames := 0, cells := 0, slots := 0, locals := 0 } : Room) s m #[(.ref w1)] below meth c s₁ [] 0 0 := Stand.of_body Bd
  have e0 : s₁.heap = h0 := by rw [← hh, Bd.state]; rfl
  have N0 := Fr.nil n0
  have pre0 : ∀ t, Steps p.tables e below (s₁.setTop (mkF m 0 #[.val (.ref w1)] [])) t → Steps p.tables e below (s₁.setTop (entryFrame m #[(.ref w1)] 1)) t := fun t k => castTop (ef_2_0 m w1) k
  obtain ⟨T3, X3, e3, st3⟩ := getF X0 hx hZ hown (host := "") (Or.inl (wd59 hw)) Via.refl e0 (pr1.ext OL0.2) (g := (mkF m 1 #[.val (.ref w1)] [(.ref w1)])) rfl rfl (hb hby d2_1)
  obtain ⟨fs, hr, hrun, hended, hW, hsame⟩ := X3.leave (v := some (.int p2)) (fun h => by rw [Bd.returns] at h; cases h)
  refine ⟨_, _, pre0 _ ?_, hrun, hended, _, _, rfl, ?_, ⟨_, rfl⟩, hW, hsame.mono (by decide) (by decide)⟩
  · show Steps p.tables e below (s₁.setTop (mkF m 0 #[.val (.ref w1)] [])) _
    refine XS.aloadN X0.here hx rfl (hb hby d2_0) rfl rfl ?_
    show Steps p.tables e below (s₁.setTop (mkF m 1 #[.val (.ref w1)] [(.ref w1)])) _
    refine st3 _ ?_
    show Steps p.tables e below (T3.setTop (mkF m 4 #[.val (.ref w1)] [(.int p2)])) _
    exact retI X3 hx Bd.returns (hb hby d2_4) hr
  · show Q_rm2_0 Z w1 p2 h0 n0 _ T3.heap _
    rw [e3]
    exact ⟨rfl, N0, rfl⟩
theorem pd_0 : parseMethodDescriptor "()I" = some ⟨[], some .int⟩ := by decide +kernel
theorem d1_4 : decode prog_47_method_5_code 4 = .ok (.aload_n 1, 1) := by decide +kernel
theorem d1_5 : decode prog_47_method_5_code 5 = .ok (.invokevirtual 110, 3) := by decide +kernel
theorem d1_8 : decode prog_47_method_5_code 8 = .ok (.if_icmp .gt 7, 3) := by decide +kernel
theorem d1_11 : decode prog_47_method_5_code 11 = .ok (.iconst 1, 1) := by decide +kernel
theorem d1_12 : decode prog_47_method_5_code 12 = .ok (.goto 4, 3) := by decide +kernel
theorem d1_16 : decode prog_47_method_5_code 16 = .ok (.ireturn, 1) := by decide +kernel
theorem ef_1_1 (m : MethodId) (x0 : Addr) (x1 : Addr) : entryFrame m #[(.ref x0), (.ref x1)] 2 = mkF m 0 #[.val (.ref x0), .val (.ref x1)] [] := by first | (simp [entryFrame, mkF, argsToLocals, Value.category]; done) | rfl
theorem pn_1 : plainName "com/example/facility_atlas/facilityatlas/Rating" = true := by first | (simp [plainName, overriddenIn]; done) | decide +kernel
def Q_rm1_0 (Z : State) (w1 : Addr) (w2 : Addr) (p3 : Int32) (p5 : Int32) (h0 : Heap) (n0 : Nat) (v : Option Value) (h : Heap) (L : List Loc) : Prop := v = some (.int (1 : Int32)) ∧ Fr n0 L ∧ h = h0
set_option maxRecDepth 65536 in
set_option maxHeartbeats 40000000 in
theorem rm1_0 (l : Launch) (Z : State) (a0 : Array Value) (hw : ∀ d ∈ tables_1, d.before a0 Z = true) (ws : List Jvm.Cond) (w1 : Addr) (w2 : Addr) (p3 : Int32) (p5 : Int32) (h0 : Heap) (n0 : Nat) (OL0 : Old Z n0 h0) (pr1 : Fld Z Z.heap w1 "java/lang/Enum" "ordinal" "I" (.int p3)) (pr2 : Exa Z Z.heap w1 "com/example/facility_atlas/facilityatlas/Rating") (pr3 : Fld Z Z.heap w2 "java/lang/Enum" "ordinal" "I" (.int p5)) (pr4 : Exa Z Z.heap w2 "com/example/facility_atlas/facilityatlas/Rating") (pr5 : ¬ (p5 < p3)) :
    MetFree l (⟨"com/example/facility_atlas/facilityatlas/Rating", "isAtOrAbove", "(Lcom/example/facility_atlas/facilityatlas/Rating;)Z"⟩ : MethodName) (head1 (Jvm.Cond.code (⟨"com/example/facility_atlas/facilityatlas/Rating", "isAtOrAbove", "(Lcom/example/facility_atlas/facilityatlas/Rating;)Z"⟩ : MethodName) prog_47_method_5_code 2 (some .boolean) :: ws) ({ frames := 1, cells := 0, slots := 0, locals := 13 } : Room)) (fun a U => a = #[(.ref w1), (.ref w2)] ∧ Z.Warmed39 U.vm ∧ U.heap = h0) (fun _ _ _ _ _ => True) (fun _ U o U' => ∃ v L, o = .returned v ∧ Q_rm1_0 Z w1 w2 p3 p5 h0 n0 v U'.heap L ∧ FrameEnd U o U' L ({ frames := 1, cells := 0, slots := 0, locals := 13 } : Room).cells ({ frames := 1, cells := 0, slots := 0, locals := 13 } : Room).slots) := by
  refine MetFree.of_bodySF (plainFor_of_name pn_1) hisR ?_
  intro p e s m args below meth c s₁ Bd hml0 hP hK
  obtain ⟨rfl, hZ, hh⟩ := hP
  have hx := Bd.exec
  have hby := Bd.bytes
  have hml : c.maxLocals = 2 := hml0
  have hown : s.vm.findClass "com/example/facility_atlas/facilityatlas/Rating" = some m.cls := findClass_of_methodNamed Bd.named
  have hnm := (name_of_methodNamed Bd.named Bd.method).1
  have X0 : Stand p l e ({ frames := 1, cells := 0, slots := 0, locals := 13 } : Room) s m #[(.ref w1), (.ref w2)] below meth c s₁ [] 0 0 := Stand.of_body Bd
  have e0 : s₁.heap = h0 := by rw [← hh, Bd.state]; rfl
  have N0 := Fr.nil n0
  have pre0 : ∀ t, Steps p.tables e below (s₁.setTop (mkF m 0 #[.val (.ref w1), .val (.ref w2)] [])) t → Steps p.tables e below (s₁.setTop (entryFrame m #[(.ref w1), (.ref w2)] 2)) t := fun t k => castTop (ef_1_1 m w1 w2) k
  obtain ⟨cq4, kq4, q4a, q4b, q4c⟩ := isOf hZ e0 (pr2.ext OL0.2)
  obtain ⟨_, _, ⟨T4, L4, k4, n4⟩, -, X4, ⟨Lc4, hQ4, l4, y4, z4⟩, st4⟩ := X0.virtualBackUp hx (owner := "java/lang/Enum") (x := (⟨"com/example/facility_atlas/facilityatlas/Rating", "ordinal", "()I"⟩ : MethodName)) (y := (⟨"java/lang/Enum", "ordinal", "()I"⟩ : MethodName)) hown (mvT hZ (wd52 hw)) (mvT hZ (wd53 hw)) (mvT hZ (wd54 hw)) (by decide) (mvT hZ (wd56 hw)) (mvT hZ (wd55 hw)) (backOf (W := 0) (rm2_0 l Z a0 hw [] w1 p3 h0 n0 OL0 pr1) hZ (wd58 hw) (wd57 hw) (by decide) (by decide)) q4a q4c (g := (mkF m 1 #[.val (.ref w1), .val (.ref w2)] [(.ref w1)])) rfl (by rw [hml]; rfl) (Steps.refl _) (argsL := []) (rest := []) (lenOf pd_0 rfl) rfl (by show 2 * 0 + _ ≤ _; exact Nat.le_of_eq rfl) (hb hby d1_1) (fun _ _ => ⟨rfl, e0, (by decide : 0 + 0 ≤ _), (by decide : 0 + 0 ≤ _)⟩)
  dsimp only [Pt.U, Pt.locs, Pt.cells, Pt.slots] at X4 l4 y4 z4 st4 hQ4
  subst l4 y4 z4
  obtain ⟨rfl, Nq4, ec4⟩ := hQ4
  have N4 := Fr.app N0 Nq4
  obtain ⟨cq6, kq6, q6a, q6b, q6c⟩ := isOf hZ ec4 (pr4.ext OL0.2)
  obtain ⟨_, _, ⟨T6, L6, k6, n6⟩, -, X6, ⟨Lc6, hQ6, l6, y6, z6⟩, st6⟩ := X4.virtualBackUp hx (owner := "java/lang/Enum") (x := (⟨"com/example/facility_atlas/facilityatlas/Rating", "ordinal", "()I"⟩ : MethodName)) (y := (⟨"java/lang/Enum", "ordinal", "()I"⟩ : MethodName)) hown (mvT hZ (wd52 hw)) (mvT hZ (wd53 hw)) (mvT hZ (wd54 hw)) (by decide) (mvT hZ (wd56 hw)) (mvT hZ (wd55 hw)) (backOf (W := 1) (rm2_0 l Z a0 hw [] w2 p5 h0 n0 OL0 pr3) hZ (wd58 hw) (wd57 hw) (by decide) (by decide)) q6a q6c (g := (mkF m 5 #[.val (.ref w1), .val (.ref w2)] [(.ref w2), (.int p3)])) rfl (by rw [hml]; rfl) (Steps.refl _) (argsL := []) (rest := [(.int p3)]) (lenOf pd_0 rfl) rfl (by show 2 * 0 + _ ≤ _; exact Nat.le_of_eq rfl) (hb hby d1_5) (fun _ _ => ⟨rfl, ec4, (by decide : 0 + 0 ≤ _), (by decide : 0 + 0 ≤ _)⟩)
  dsimp only [Pt.U, Pt.locs, Pt.cells, Pt.slots] at X6 l6 y6 z6 st6 hQ6
  subst l6 y6 z6
  obtain ⟨rfl, Nq6, ec6⟩ := hQ6
  have N6 := Fr.app N4 Nq6
  obtain ⟨fs, hr, hrun, hended, hW, hsame⟩ := X6.leave (v := some (.int (1 : Int32))) (fun h => by rw [Bd.returns] at h; cases h)
  refine ⟨_, _, pre0 _ ?_, hrun, hended, _, _, rfl, ?_, ⟨_, rfl⟩, hW, hsame.mono (by decide) (by decide)⟩
  · show Steps p.tables e below (s₁.setTop (mkF m 0 #[.val (.ref w1), .val (.ref w2)] [])) _
    refine XS.aloadN X0.here hx rfl (hb hby d1_0) rfl rfl ?_
    show Steps p.tables e below (s₁.setTop (mkF m 1 #[.val (.ref w1), .val (.ref w2)] [(.ref w1)])) _
    refine st4.trans ?_
    show Steps p.tables e below (T4.setTop (mkF m 4 #[.val (.ref w1), .val (.ref w2)] [(.int p3)])) _
    refine XS.aloadN X4.here hx rfl (hb hby d1_4) rfl rfl ?_
    show Steps p.tables e below (T4.setTop (mkF m 5 #[.val (.ref w1), .val (.ref w2)] [(.ref w2), (.int p3)])) _
    refine st6.trans ?_
    show Steps p.tables e below (T6.setTop (mkF m 8 #[.val (.ref w1), .val (.ref w2)] [(.int p5), (.int p3)])) _
    refine XS.icmpNo X6.here hx rfl (hb hby d1_8) rfl (flt pr5).2.2.1 ?_
    show Steps p.tables e below (T6.setTop (mkF m 11 #[.val (.ref w1), .val (.ref w2)] [])) _
    refine XS.iconst X6.here hx rfl (hb hby d1_11) ?_
    show Steps p.tables e below (T6.setTop (mkF m 12 #[.val (.ref w1), .val (.ref w2)] [(.int (1 : Int32))])) _
    refine XS.goto X6.here hx rfl (pc0 := 12) (pc' := 16) rfl (hb hby d1_12) (by decide) (by decide) ?_
    show Steps p.tables e below (T6.setTop (mkF m 16 #[.val (.ref w1), .val (.ref w2)] [(.int (1 : Int32))])) _
    exact retN X6 hx (t := .boolean) Bd.returns (by simp) (hb hby d1_16) hr
  · show Q_rm1_0 Z w1 w2 p3 p5 h0 n0 _ T6.heap _
    rw [ec6]
    exact ⟨rfl, N6, rfl⟩
theorem pd_1 : parseMethodDescriptor "(Lcom/example/facility_atlas/facilityatlas/Rating;)Z" = some ⟨[(.object "com/example/facility_atlas/facilityatlas/Rating")], some .boolean⟩ := by decide +kernel
theorem ef_0_2 (m : MethodId) (x0 : Int32) (x1 : Int32) : entryFrame m #[(.int x0), (.int x1)] maxLocals = mkF m 0 #[.val (.int x0), .val (.int x1), .unset, .unset, .unset, .unset] [] := by first | (simp [entryFrame, mkF, argsToLocals, Value.category, maxLocals]; done) | rfl
theorem pn_2 : plainName "com/example/facility_atlas/facilityatlas/RatingIsAtOrAbovePinLaw" = true := by first | (simp [plainName, overriddenIn]; done) | decide +kernel
set_option maxRecDepth 65536 in
set_option maxHeartbeats 40000000 in
theorem rm0_lt (l : Launch) (Z : State) (a0 : Array Value) (hw : ∀ d ∈ tables_1, d.before a0 Z = true) (ws : List Jvm.Cond) (p1 : Int32) (p2 : Int32) (w_AAA : Addr) (w_AA_PLUS : Addr) (w_AA : Addr) (w_AA_MINUS : Addr) (w_A_PLUS : Addr) (w_A : Addr) (w_A_MINUS : Addr) (w_BBB_PLUS : Addr) (w_BBB : Addr) (w_BBB_MINUS : Addr) (w_BB_PLUS : Addr) (w_BB : Addr) (w_BB_MINUS : Addr) (w_B_PLUS : Addr) (w_B : Addr) (w_B_MINUS : Addr) (w_CCC_PLUS : Addr) (w_CCC : Addr) (w_CCC_MINUS : Addr) (w_CC : Addr) (w_C : Addr) (v1 : Addr) (v2 : Addr) (h0 : Heap) (n0 : Nat) (OL0 : Old Z n0 h0) (pr1 : Sta Z Z.heap "com/example/facility_atlas/facilityatlas/Rating" "AAA" "Lcom/example/facility_atlas/facilityatlas/Rating;" (.ref w_AAA)) (pr2 : Exa Z Z.heap w_AAA "com/example/facility_atlas/facilityatlas/Rating") (pr3 : Sta Z Z.heap "com/example/facility_atlas/facilityatlas/Rating" "AA_PLUS" "Lcom/example/facility_atlas/facilityatlas/Rating;" (.ref w_AA_PLUS)) (pr4 : Exa Z Z.heap w_AA_PLUS "com/example/facility_atlas/facilityatlas/Rating") (pr5 : Sta Z Z.heap "com/example/facility_atlas/facilityatlas/Rating" "AA" "Lcom/example/facility_atlas/facilityatlas/Rating;" (.ref w_AA)) (pr6 : Exa Z Z.heap w_AA "com/example/facility_atlas/facilityatlas/Rating") (pr7 : Sta Z Z.heap "com/example/facility_atlas/facilityatlas/Rating" "AA_MINUS" "Lcom/example/facility_atlas/facilityatlas/Rating;" (.ref w_AA_MINUS)) (pr8 : Exa Z Z.heap w_AA_MINUS "com/example/facility_atlas/facilityatlas/Rating") (pr9 : Sta Z Z.heap "com/example/facility_atlas/facilityatlas/Rating" "A_PLUS" "Lcom/example/facility_atlas/facilityatlas/Rating;" (.ref w_A_PLUS)) (pr10 : Exa Z Z.heap w_A_PLUS "com/example/facility_atlas/facilityatlas/Rating") (pr11 : Sta Z Z.heap "com/example/facility_atlas/facilityatlas/Rating" "A" "Lcom/example/facility_atlas/facilityatlas/Rating;" (.ref w_A)) (pr12 : Exa Z Z.heap w_A "com/example/facility_atlas/facilityatlas/Rating") (pr13 : Sta Z Z.heap "com/example/facility_atlas/facilityatlas/Rating" "A_MINUS" "Lcom/example/facility_atlas/facilityatlas/Rating;" (.ref w_A_MINUS)) (pr14 : Exa Z Z.heap w_A_MINUS "com/example/facility_atlas/facilityatlas/Rating") (pr15 : Sta Z Z.heap "com/example/facility_atlas/facilityatlas/Rating" "BBB_PLUS" "Lcom/example/facility_atlas/facilityatlas/Rating;" (.ref w_BBB_PLUS)) (pr16 : Exa Z Z.heap w_BBB_PLUS "com/example/facility_atlas/facilityatlas/Rating") (pr17 : Sta Z Z.heap "com/example/facility_atlas/facilityatlas/Rating" "BBB" "Lcom/example/facility_atlas/facilityatlas/Rating;" (.ref w_BBB)) (pr18 : Exa Z Z.heap w_BBB "com/example/facility_atlas/facilityatlas/Rating") (pr19 : Sta Z Z.heap "com/example/facility_atlas/facilityatlas/Rating" "BBB_MINUS" "Lcom/example/facility_atlas/facilityatlas/Rating;" (.ref w_BBB_MINUS)) (pr20 : Exa Z Z.heap w_BBB_MINUS "com/example/facility_atlas/facilityatlas/Rating") (pr21 : Sta Z Z.heap "com/example/facility_atlas/facilityatlas/Rating" "BB_PLUS" "Lcom/example/facility_atlas/facilityatlas/Rating;" (.ref w_BB_PLUS)) (pr22 : Exa Z Z.heap w_BB_PLUS "com/example/facility_atlas/facilityatlas/Rating") (pr23 : Sta Z Z.heap "com/example/facility_atlas/facilityatlas/Rating" "BB" "Lcom/example/facility_atlas/facilityatlas/Rating;" (.ref w_BB)) (pr24 : Exa Z Z.heap w_BB "com/example/facility_atlas/facilityatlas/Rating") (pr25 : Sta Z Z.heap "com/example/facility_atlas/facilityatlas/Rating" "BB_MINUS" "Lcom/example/facility_atlas/facilityatlas/Rating;" (.ref w_BB_MINUS)) (pr26 : Exa Z Z.heap w_BB_MINUS "com/example/facility_atlas/facilityatlas/Rating") (pr27 : Sta Z Z.heap "com/example/facility_atlas/facilityatlas/Rating" "B_PLUS" "Lcom/example/facility_atlas/facilityatlas/Rating;" (.ref w_B_PLUS)) (pr28 : Exa Z Z.heap w_B_PLUS "com/example/facility_atlas/facilityatlas/Rating") (pr29 : Sta Z Z.heap "com/example/facility_atlas/facilityatlas/Rating" "B" "Lcom/example/facility_atlas/facilityatlas/Rating;" (.ref w_B)) (pr30 : Exa Z Z.heap w_B "com/example/facility_atlas/facilityatlas/Rating") (pr31 : Sta Z Z.heap "com/example/facility_atlas/facilityatlas/Rating" "B_MINUS" "Lcom/example/facility_atlas/facilityatlas/Rating;" (.ref w_B_MINUS)) (pr32 : Exa Z Z.heap w_B_MINUS "com/example/facility_atlas/facilityatlas/Rating") (pr33 : Sta Z Z.heap "com/example/facility_atlas/facilityatlas/Rating" "CCC_PLUS" "Lcom/example/facility_atlas/facilityatlas/Rating;" (.ref w_CCC_PLUS)) (pr34 : Exa Z Z.heap w_CCC_PLUS "com/example/facility_atlas/facilityatlas/Rating") (pr35 : Sta Z Z.heap "com/example/facility_atlas/facilityatlas/Rating" "CCC" "Lcom/example/facility_atlas/facilityatlas/Rating;" (.ref w_CCC)) (pr36 : Exa Z Z.heap w_CCC "com/example/facility_atlas/facilityatlas/Rating") (pr37 : Sta Z Z.heap "com/example/facility_atlas/facilityatlas/Rating" "CCC_MINUS" "Lcom/example/facility_atlas/facilityatlas/Rating;" (.ref w_CCC_MINUS)) (pr38 : Exa Z Z.heap w_CCC_MINUS "com/example/facility_atlas/facilityatlas/Rating") (pr39 : Sta Z Z.heap "com/example/facility_atlas/facilityatlas/Rating" "CC" "Lcom/example/facility_atlas/facilityatlas/Rating;" (.ref w_CC)) (pr40 : Exa Z Z.heap w_CC "com/example/facility_atlas/facilityatlas/Rating") (pr41 : Sta Z Z.heap "com/example/facility_atlas/facilityatlas/Rating" "C" "Lcom/example/facility_atlas/facilityatlas/Rating;" (.ref w_C)) (pr42 : Exa Z Z.heap w_C "com/example/facility_atlas/facilityatlas/Rating") (pr43 : ¬ (((p2 &&& (2147483647 : Int32)) % (21 : Int32)) < ((p1 &&& (2147483647 : Int32)) % (21 : Int32)))) (pr44 : ¬ (((p1 &&& (2147483647 : Int32)) % (21 : Int32)) < (0 : Int32))) (pr45 : ((p1 &&& (2147483647 : Int32)) % (21 : Int32)) < (21 : Int32)) (pr46 : ([(.ref w_AAA), (.ref w_AA_PLUS), (.ref w_AA), (.ref w_AA_MINUS), (.ref w_A_PLUS), (.ref w_A), (.ref w_A_MINUS), (.ref w_BBB_PLUS), (.ref w_BBB), (.ref w_BBB_MINUS), (.ref w_BB_PLUS), (.ref w_BB), (.ref w_BB_MINUS), (.ref w_B_PLUS), (.ref w_B), (.ref w_B_MINUS), (.ref w_CCC_PLUS), (.ref w_CCC), (.ref w_CCC_MINUS), (.ref w_CC), (.ref w_C)] : List Value).getD (((p1 &&& (2147483647 : Int32)) % (21 : Int32))).toNatClampNeg .null = .ref v1) (pr47 : ¬ (((p2 &&& (2147483647 : Int32)) % (21 : Int32)) < (0 : Int32))) (pr48 : ((p2 &&& (2147483647 : Int32)) % (21 : Int32)) < (21 : Int32)) (pr49 : ([(.ref w_AAA), (.ref w_AA_PLUS), (.ref w_AA), (.ref w_AA_MINUS), (.ref w_A_PLUS), (.ref w_A), (.ref w_A_MINUS), (.ref w_BBB_PLUS), (.ref w_BBB), (.ref w_BBB_MINUS), (.ref w_BB_PLUS), (.ref w_BB), (.ref w_BB_MINUS), (.ref w_B_PLUS), (.ref w_B), (.ref w_B_MINUS), (.ref w_CCC_PLUS), (.ref w_CCC), (.ref w_CCC_MINUS), (.ref w_CC), (.ref w_C)] : List Value).getD (((p2 &&& (2147483647 : Int32)) % (21 : Int32))).toNatClampNeg .null = .ref v2) (pr50 : Fld Z Z.heap v1 "java/lang/Enum" "ordinal" "I" (.int ((p1 &&& (2147483647 : Int32)) % (21 : Int32)))) (pr51 : Exa Z Z.heap v1 "com/example/facility_atlas/facilityatlas/Rating") (pr52 : Fld Z Z.heap v2 "java/lang/Enum" "ordinal" "I" (.int ((p2 &&& (2147483647 : Int32)) % (21 : Int32)))) (pr53 : Exa Z Z.heap v2 "com/example/facility_atlas/facilityatlas/Rating") :
    MetFree l x (head1 (Jvm.Cond.code x code maxLocals ret :: ws) room_1) (fun a U => a = #[(.int p1), (.int p2)] ∧ Z.Warmed39 U.vm ∧ U.heap = h0) (fun _ _ _ _ _ => True) (fun _ U o U' => ∃ v L, o = .returned v ∧ Q0 n0 v L ∧ FrameEnd U o U' L 16 128) := by
  refine MetFree.of_bodySF (plainFor_of_name pn_2) hisR ?_
  intro p e s m args below meth c s₁ Bd hml0 hP hK
  obtain ⟨rfl, hZ, hh⟩ := hP
  have hx := Bd.exec
  have hby := Bd.bytes
  have hml : c.maxLocals = 6 := hml0
  have hown : s.vm.findClass "com/example/facility_atlas/facilityatlas/RatingIsAtOrAbovePinLaw" = some m.cls := findClass_of_methodNamed Bd.named
  have hnm := (name_of_methodNamed Bd.named Bd.method).1
  have X0 : Stand p l e room_1 s m #[(.int p1), (.int p2)] below meth c s₁ [] 0 0 := Stand.of_body Bd
  have e0 : s₁.heap = h0 := by rw [← hh, Bd.state]; rfl
  have N0 := Fr.nil n0
  have pre0 : ∀ t, Steps p.tables e below (s₁.setTop (mkF m 0 #[.val (.int p1), .val (.int p2), .unset, .unset, .unset, .unset] [])) t → Steps p.tables e below (s₁.setTop (entryFrame m #[(.int p1), (.int p2)] maxLocals)) t := fun t k => castTop (ef_0_2 m p1 p2) k
  obtain ⟨T1, h1, k1, X1, e1, E1, A1, O1, st1⟩ := newR X0 hx hZ hown (wd0 hw) (wd1 hw) e0 (g := (mkF m 2 #[.val (.int p1), .val (.int p2), .unset, .unset, .unset, .unset] [(.int (21 : Int32))])) rfl (hb hby at_2) rfl (by decide) (cap := 21) (by decide) (by decide) (by decide) (by decide)
  obtain ⟨b1, g1⟩ : ∃ z, z = h0.size := ⟨_, rfl⟩
  rw [← g1] at A1 st1
  have V1 : Arv Z h1 b1 k1 (.object "com/example/facility_atlas/facilityatlas/Rating") (21 : Int32) [.null, .null, .null, .null, .null, .null, .null, .null, .null, .null, .null, .null, .null, .null, .null, .null, .null, .null, .null, .null, .null] .null := (Arv.new A1 (by decide)).pad (pad_rep [] .null 21)
  have g_b1 : n0 ≤ b1 := (Nat.le_trans (Nat.le_trans (Nat.le_of_eq OL0.1.symm) OL0.2.1) (Nat.le_of_eq g1.symm))
  have sz_b1 : h0.size ≤ b1 := (Nat.le_trans (Keep.refl h0 []).1 (Nat.le_of_eq g1.symm))
  have KK1 : Keep h0 h1 [] := (Keep.refl h0 []).ext E1
  have OL1 := OL0.ext E1
  obtain ⟨T2, X2, e2, st2⟩ := getS2 X1 hx hZ hown (host := "") (Or.inl (wd2 hw)) Via.refl e1 (pr1.ext OL1.2) (g := (mkF m 7 #[.val (.int p1), .val (.int p2), .unset, .unset, .unset, .unset] [(.int (0 : Int32)), (.ref b1), (.ref b1)])) rfl (hb hby at_7)
  obtain ⟨cl3, Ar3, q3, S3, M3, Hs3, G3⟩ := id V1
  have hin3 : ¬ ((0 : Int32) < 0 ∨ cl3.slots.size ≤ ((0 : Int32)).toNatClampNeg) := inb_of S3 ⟨by decide, by decide⟩
  obtain ⟨T4, h4, X4, e4, W4, st4⟩ := stR X2 hx hZ e2 Ar3 (j := (0 : Int32)) hin3 rfl (Sto.ofV Ar3 q3 O1 (Ins.self (pr2.ext OL1.2))) (g := (mkF m 10 #[.val (.int p1), .val (.int p2), .unset, .unset, .unset, .unset] [(.ref w_AAA), (.int (0 : Int32)), (.ref b1), (.ref b1)])) rfl rfl (hb hby at_10)
  have V4 : Arv Z h4 b1 k1 (.object "com/example/facility_atlas/facilityatlas/Rating") (21 : Int32) [(.ref w_AAA), .null, .null, .null, .null, .null, .null, .null, .null, .null, .null, .null, .null, .null, .null, .null, .null, .null, .null, .null, .null] .null := Arv.set Ar3 q3 S3 M3 Hs3 G3 rfl W4 0 rfl (Nat.le_of_ble_eq_true rfl)
  have KK4 : Keep h0 h4 [] := KK1.wr W4 (Or.inr sz_b1)
  have OL4 := OL1.wr W4 g_b1
  have N4 := Fr.snoc X4 N0 g_b1
  obtain ⟨T5, X5, e5, st5⟩ := getS2 X4 hx hZ hown (host := "") (Or.inl (wd6 hw)) Via.refl e4 (pr3.ext OL4.2) (g := (mkF m 13 #[.val (.int p1), .val (.int p2), .unset, .unset, .unset, .unset] [(.int (1 : Int32)), (.ref b1), (.ref b1)])) rfl (hb hby at_13)
  obtain ⟨cl6, Ar6, q6, S6, M6, Hs6, G6⟩ := id V4
  have hin6 : ¬ ((1 : Int32) < 0 ∨ cl6.slots.size ≤ ((1 : Int32)).toNatClampNeg) := inb_of S6 ⟨by decide, by decide⟩
  obtain ⟨T7, h7, X7, e7, W7, st7⟩ := stR X5 hx hZ e5 Ar6 (j := (1 : Int32)) hin6 rfl (Sto.ofV Ar6 q6 O1 (Ins.self (pr4.ext OL4.2))) (g := (mkF m 16 #[.val (.int p1), .val (.int p2), .unset, .unset, .unset, .unset] [(.ref w_AA_PLUS), (.int (1 : Int32)), (.ref b1), (.ref b1)])) rfl rfl (hb hby at_16)
  have V7 : Arv Z h7 b1 k1 (.object "com/example/facility_atlas/facilityatlas/Rating") (21 : Int32) [(.ref w_AAA), (.ref w_AA_PLUS), .null, .null, .null, .null, .null, .null, .null, .null, .null, .null, .null, .null, .null, .null, .null, .null, .null, .null, .null] .null := Arv.set Ar6 q6 S6 M6 Hs6 G6 rfl W7 1 rfl (Nat.le_of_ble_eq_true rfl)
  have KK7 : Keep h0 h7 [] := KK4.wr W7 (Or.inr sz_b1)
  have OL7 := OL4.wr W7 g_b1
  have N7 := Fr.snoc X7 N4 g_b1
  obtain ⟨T8, X8, e8, st8⟩ := getS2 X7 hx hZ hown (host := "") (Or.inl (wd8 hw)) Via.refl e7 (pr5.ext OL7.2) (g := (mkF m 19 #[.val (.int p1), .val (.int p2), .unset, .unset, .unset, .unset] [(.int (2 : Int32)), (.ref b1), (.ref b1)])) rfl (hb hby at_19)
  obtain ⟨cl9, Ar9, q9, S9, M9, Hs9, G9⟩ := id V7
  have hin9 : ¬ ((2 : Int32) < 0 ∨ cl9.slots.size ≤ ((2 : Int32)).toNatClampNeg) := inb_of S9 ⟨by decide, by decide⟩
  obtain ⟨T10, h10, X10, e10, W10, st10⟩ := stR X8 hx hZ e8 Ar9 (j := (2 : Int32)) hin9 rfl (Sto.ofV Ar9 q9 O1 (Ins.self (pr6.ext OL7.2))) (g := (mkF m 22 #[.val (.int p1), .val (.int p2), .unset, .unset, .unset, .unset] [(.ref w_AA), (.int (2 : Int32)), (.ref b1), (.ref b1)])) rfl rfl (hb hby at_22)
  have V10 : Arv Z h10 b1 k1 (.object "com/example/facility_atlas/facilityatlas/Rating") (21 : Int32) [(.ref w_AAA), (.ref w_AA_PLUS), (.ref w_AA), .null, .null, .null, .null, .null, .null, .null, .null, .null, .null, .null, .null, .null, .null, .null, .null, .null, .null] .null := Arv.set Ar9 q9 S9 M9 Hs9 G9 rfl W10 2 rfl (Nat.le_of_ble_eq_true rfl)
  have KK10 : Keep h0 h10 [] := KK7.wr W10 (Or.inr sz_b1)
  have OL10 := OL7.wr W10 g_b1
  have N10 := Fr.snoc X10 N7 g_b1
  obtain ⟨T11, X11, e11, st11⟩ := getS2 X10 hx hZ hown (host := "") (Or.inl (wd10 hw)) Via.refl e10 (pr7.ext OL10.2) (g := (mkF m 25 #[.val (.int p1), .val (.int p2), .unset, .unset, .unset, .unset] [(.int (3 : Int32)), (.ref b1), (.ref b1)])) rfl (hb hby at_25)
  obtain ⟨cl12, Ar12, q12, S12, M12, Hs12, G12⟩ := id V10
  have hin12 : ¬ ((3 : Int32) < 0 ∨ cl12.slots.size ≤ ((3 : Int32)).toNatClampNeg) := inb_of S12 ⟨by decide, by decide⟩
  obtain ⟨T13, h13, X13, e13, W13, st13⟩ := stR X11 hx hZ e11 Ar12 (j := (3 : Int32)) hin12 rfl (Sto.ofV Ar12 q12 O1 (Ins.self (pr8.ext OL10.2))) (g := (mkF m 28 #[.val (.int p1), .val (.int p2), .unset, .unset, .unset, .unset] [(.ref w_AA_MINUS), (.int (3 : Int32)), (.ref b1), (.ref b1)])) rfl rfl (hb hby at_28)
  have V13 : Arv Z h13 b1 k1 (.object "com/example/facility_atlas/facilityatlas/Rating") (21 : Int32) [(.ref w_AAA), (.ref w_AA_PLUS), (.ref w_AA), (.ref w_AA_MINUS), .null, .null, .null, .null, .null, .null, .null, .null, .null, .null, .null, .null, .null, .null, .null, .null, .null] .null := Arv.set Ar12 q12 S12 M12 Hs12 G12 rfl W13 3 rfl (Nat.le_of_ble_eq_true rfl)
  have KK13 : Keep h0 h13 [] := KK10.wr W13 (Or.inr sz_b1)
  have OL13 := OL10.wr W13 g_b1
  have N13 := Fr.snoc X13 N10 g_b1
  obtain ⟨T14, X14, e14, st14⟩ := getS2 X13 hx hZ hown (host := "") (Or.inl (wd12 hw)) Via.refl e13 (pr9.ext OL13.2) (g := (mkF m 31 #[.val (.int p1), .val (.int p2), .unset, .unset, .unset, .unset] [(.int (4 : Int32)), (.ref b1), (.ref b1)])) rfl (hb hby at_31)
  obtain ⟨cl15, Ar15, q15, S15, M15, Hs15, G15⟩ := id V13
  have hin15 : ¬ ((4 : Int32) < 0 ∨ cl15.slots.size ≤ ((4 : Int32)).toNatClampNeg) := inb_of S15 ⟨by decide, by decide⟩
  obtain ⟨T16, h16, X16, e16, W16, st16⟩ := stR X14 hx hZ e14 Ar15 (j := (4 : Int32)) hin15 rfl (Sto.ofV Ar15 q15 O1 (Ins.self (pr10.ext OL13.2))) (g := (mkF m 34 #[.val (.int p1), .val (.int p2), .unset, .unset, .unset, .unset] [(.ref w_A_PLUS), (.int (4 : Int32)), (.ref b1), (.ref b1)])) rfl rfl (hb hby at_34)
  have V16 : Arv Z h16 b1 k1 (.object "com/example/facility_atlas/facilityatlas/Rating") (21 : Int32) [(.ref w_AAA), (.ref w_AA_PLUS), (.ref w_AA), (.ref w_AA_MINUS), (.ref w_A_PLUS), .null, .null, .null, .null, .null, .null, .null, .null, .null, .null, .null, .null, .null, .null, .null, .null] .null := Arv.set Ar15 q15 S15 M15 Hs15 G15 rfl W16 4 rfl (Nat.le_of_ble_eq_true rfl)
  have KK16 : Keep h0 h16 [] := KK13.wr W16 (Or.inr sz_b1)
  have OL16 := OL13.wr W16 g_b1
  have N16 := Fr.snoc X16 N13 g_b1
  obtain ⟨T17, X17, e17, st17⟩ := getS2 X16 hx hZ hown (host := "") (Or.inl (wd14 hw)) Via.refl e16 (pr11.ext OL16.2) (g := (mkF m 37 #[.val (.int p1), .val (.int p2), .unset, .unset, .unset, .unset] [(.int (5 : Int32)), (.ref b1), (.ref b1)])) rfl (hb hby at_37)
  obtain ⟨cl18, Ar18, q18, S18, M18, Hs18, G18⟩ := id V16
  have hin18 : ¬ ((5 : Int32) < 0 ∨ cl18.slots.size ≤ ((5 : Int32)).toNatClampNeg) := inb_of S18 ⟨by decide, by decide⟩
  obtain ⟨T19, h19, X19, e19, W19, st19⟩ := stR X17 hx hZ e17 Ar18 (j := (5 : Int32)) hin18 rfl (Sto.ofV Ar18 q18 O1 (Ins.self (pr12.ext OL16.2))) (g := (mkF m 40 #[.val (.int p1), .val (.int p2), .unset, .unset, .unset, .unset] [(.ref w_A), (.int (5 : Int32)), (.ref b1), (.ref b1)])) rfl rfl (hb hby at_40)
  have V19 : Arv Z h19 b1 k1 (.object "com/example/facility_atlas/facilityatlas/Rating") (21 : Int32) [(.ref w_AAA), (.ref w_AA_PLUS), (.ref w_AA), (.ref w_AA_MINUS), (.ref w_A_PLUS), (.ref w_A), .null, .null, .null, .null, .null, .null, .null, .null, .null, .null, .null, .null, .null, .null, .null] .null := Arv.set Ar18 q18 S18 M18 Hs18 G18 rfl W19 5 rfl (Nat.le_of_ble_eq_true rfl)
  have KK19 : Keep h0 h19 [] := KK16.wr W19 (Or.inr sz_b1)
  have OL19 := OL16.wr W19 g_b1
  have N19 := Fr.snoc X19 N16 g_b1
  obtain ⟨T20, X20, e20, st20⟩ := getS2 X19 hx hZ hown (host := "") (Or.inl (wd16 hw)) Via.refl e19 (pr13.ext OL19.2) (g := (mkF m 44 #[.val (.int p1), .val (.int p2), .unset, .unset, .unset, .unset] [(.int (6 : Int32)), (.ref b1), (.ref b1)])) rfl (hb hby at_44)
  obtain ⟨cl21, Ar21, q21, S21, M21, Hs21, G21⟩ := id V19
  have hin21 : ¬ ((6 : Int32) < 0 ∨ cl21.slots.size ≤ ((6 : Int32)).toNatClampNeg) := inb_of S21 ⟨by decide, by decide⟩
  obtain ⟨T22, h22, X22, e22, W22, st22⟩ := stR X20 hx hZ e20 Ar21 (j := (6 : Int32)) hin21 rfl (Sto.ofV Ar21 q21 O1 (Ins.self (pr14.ext OL19.2))) (g := (mkF m 47 #[.val (.int p1), .val (.int p2), .unset, .unset, .unset, .unset] [(.ref w_A_MINUS), (.int (6 : Int32)), (.ref b1), (.ref b1)])) rfl rfl (hb hby at_47)
  have V22 : Arv Z h22 b1 k1 (.object "com/example/facility_atlas/facilityatlas/Rating") (21 : Int32) [(.ref w_AAA), (.ref w_AA_PLUS), (.ref w_AA), (.ref w_AA_MINUS), (.ref w_A_PLUS), (.ref w_A), (.ref w_A_MINUS), .null, .null, .null, .null, .null, .null, .null, .null, .null, .null, .null, .null, .null, .null] .null := Arv.set Ar21 q21 S21 M21 Hs21 G21 rfl W22 6 rfl (Nat.le_of_ble_eq_true rfl)
  have KK22 : Keep h0 h22 [] := KK19.wr W22 (Or.inr sz_b1)
  have OL22 := OL19.wr W22 g_b1
  have N22 := Fr.snoc X22 N19 g_b1
  obtain ⟨T23, X23, e23, st23⟩ := getS2 X22 hx hZ hown (host := "") (Or.inl (wd18 hw)) Via.refl e22 (pr15.ext OL22.2) (g := (mkF m 51 #[.val (.int p1), .val (.int p2), .unset, .unset, .unset, .unset] [(.int (7 : Int32)), (.ref b1), (.ref b1)])) rfl (hb hby at_51)
  obtain ⟨cl24, Ar24, q24, S24, M24, Hs24, G24⟩ := id V22
  have hin24 : ¬ ((7 : Int32) < 0 ∨ cl24.slots.size ≤ ((7 : Int32)).toNatClampNeg) := inb_of S24 ⟨by decide, by decide⟩
  obtain ⟨T25, h25, X25, e25, W25, st25⟩ := stR X23 hx hZ e23 Ar24 (j := (7 : Int32)) hin24 rfl (Sto.ofV Ar24 q24 O1 (Ins.self (pr16.ext OL22.2))) (g := (mkF m 54 #[.val (.int p1), .val (.int p2), .unset, .unset, .unset, .unset] [(.ref w_BBB_PLUS), (.int (7 : Int32)), (.ref b1), (.ref b1)])) rfl rfl (hb hby at_54)
  have V25 : Arv Z h25 b1 k1 (.object "com/example/facility_atlas/facilityatlas/Rating") (21 : Int32) [(.ref w_AAA), (.ref w_AA_PLUS), (.ref w_AA), (.ref w_AA_MINUS), (.ref w_A_PLUS), (.ref w_A), (.ref w_A_MINUS), (.ref w_BBB_PLUS), .null, .null, .null, .null, .null, .null, .null, .null, .null, .null, .null, .null, .null] .null := Arv.set Ar24 q24 S24 M24 Hs24 G24 rfl W25 7 rfl (Nat.le_of_ble_eq_true rfl)
  have KK25 : Keep h0 h25 [] := KK22.wr W25 (Or.inr sz_b1)
  have OL25 := OL22.wr W25 g_b1
  have N25 := Fr.snoc X25 N22 g_b1
  obtain ⟨T26, X26, e26, st26⟩ := getS2 X25 hx hZ hown (host := "") (Or.inl (wd20 hw)) Via.refl e25 (pr17.ext OL25.2) (g := (mkF m 58 #[.val (.int p1), .val (.int p2), .unset, .unset, .unset, .unset] [(.int (8 : Int32)), (.ref b1), (.ref b1)])) rfl (hb hby at_58)
  obtain ⟨cl27, Ar27, q27, S27, M27, Hs27, G27⟩ := id V25
  have hin27 : ¬ ((8 : Int32) < 0 ∨ cl27.slots.size ≤ ((8 : Int32)).toNatClampNeg) := inb_of S27 ⟨by decide, by decide⟩
  obtain ⟨T28, h28, X28, e28, W28, st28⟩ := stR X26 hx hZ e26 Ar27 (j := (8 : Int32)) hin27 rfl (Sto.ofV Ar27 q27 O1 (Ins.self (pr18.ext OL25.2))) (g := (mkF m 61 #[.val (.int p1), .val (.int p2), .unset, .unset, .unset, .unset] [(.ref w_BBB), (.int (8 : Int32)), (.ref b1), (.ref b1)])) rfl rfl (hb hby at_61)
  have V28 : Arv Z h28 b1 k1 (.object "com/example/facility_atlas/facilityatlas/Rating") (21 : Int32) [(.ref w_AAA), (.ref w_AA_PLUS), (.ref w_AA), (.ref w_AA_MINUS), (.ref w_A_PLUS), (.ref w_A), (.ref w_A_MINUS), (.ref w_BBB_PLUS), (.ref w_BBB), .null, .null, .null, .null, .null, .null, .null, .null, .null, .null, .null, .null] .null := Arv.set Ar27 q27 S27 M27 Hs27 G27 rfl W28 8 rfl (Nat.le_of_ble_eq_true rfl)
  have KK28 : Keep h0 h28 [] := KK25.wr W28 (Or.inr sz_b1)
  have OL28 := OL25.wr W28 g_b1
  have N28 := Fr.snoc X28 N25 g_b1
  obtain ⟨T29, X29, e29, st29⟩ := getS2 X28 hx hZ hown (host := "") (Or.inl (wd22 hw)) Via.refl e28 (pr19.ext OL28.2) (g := (mkF m 65 #[.val (.int p1), .val (.int p2), .unset, .unset, .unset, .unset] [(.int (9 : Int32)), (.ref b1), (.ref b1)])) rfl (hb hby at_65)
  obtain ⟨cl30, Ar30, q30, S30, M30, Hs30, G30⟩ := id V28
  have hin30 : ¬ ((9 : Int32) < 0 ∨ cl30.slots.size ≤ ((9 : Int32)).toNatClampNeg) := inb_of S30 ⟨by decide, by decide⟩
  obtain ⟨T31, h31, X31, e31, W31, st31⟩ := stR X29 hx hZ e29 Ar30 (j := (9 : Int32)) hin30 rfl (Sto.ofV Ar30 q30 O1 (Ins.self (pr20.ext OL28.2))) (g := (mkF m 68 #[.val (.int p1), .val (.int p2), .unset, .unset, .unset, .unset] [(.ref w_BBB_MINUS), (.int (9 : Int32)), (.ref b1), (.ref b1)])) rfl rfl (hb hby at_68)
  have V31 : Arv Z h31 b1 k1 (.object "com/example/facility_atlas/facilityatlas/Rating") (21 : Int32) [(.ref w_AAA), (.ref w_AA_PLUS), (.ref w_AA), (.ref w_AA_MINUS), (.ref w_A_PLUS), (.ref w_A), (.ref w_A_MINUS), (.ref w_BBB_PLUS), (.ref w_BBB), (.ref w_BBB_MINUS), .null, .null, .null, .null, .null, .null, .null, .null, .null, .null, .null] .null := Arv.set Ar30 q30 S30 M30 Hs30 G30 rfl W31 9 rfl (Nat.le_of_ble_eq_true rfl)
  have KK31 : Keep h0 h31 [] := KK28.wr W31 (Or.inr sz_b1)
  have OL31 := OL28.wr W31 g_b1
  have N31 := Fr.snoc X31 N28 g_b1
  obtain ⟨T32, X32, e32, st32⟩ := getS2 X31 hx hZ hown (host := "") (Or.inl (wd24 hw)) Via.refl e31 (pr21.ext OL31.2) (g := (mkF m 72 #[.val (.int p1), .val (.int p2), .unset, .unset, .unset, .unset] [(.int (10 : Int32)), (.ref b1), (.ref b1)])) rfl (hb hby at_72)
  obtain ⟨cl33, Ar33, q33, S33, M33, Hs33, G33⟩ := id V31
  have hin33 : ¬ ((10 : Int32) < 0 ∨ cl33.slots.size ≤ ((10 : Int32)).toNatClampNeg) := inb_of S33 ⟨by decide, by decide⟩
  obtain ⟨T34, h34, X34, e34, W34, st34⟩ := stR X32 hx hZ e32 Ar33 (j := (10 : Int32)) hin33 rfl (Sto.ofV Ar33 q33 O1 (Ins.self (pr22.ext OL31.2))) (g := (mkF m 75 #[.val (.int p1), .val (.int p2), .unset, .unset, .unset, .unset] [(.ref w_BB_PLUS), (.int (10 : Int32)), (.ref b1), (.ref b1)])) rfl rfl (hb hby at_75)
  have V34 : Arv Z h34 b1 k1 (.object "com/example/facility_atlas/facilityatlas/Rating") (21 : Int32) [(.ref w_AAA), (.ref w_AA_PLUS), (.ref w_AA), (.ref w_AA_MINUS), (.ref w_A_PLUS), (.ref w_A), (.ref w_A_MINUS), (.ref w_BBB_PLUS), (.ref w_BBB), (.ref w_BBB_MINUS), (.ref w_BB_PLUS), .null, .null, .null, .null, .null, .null, .null, .null, .null, .null] .null := Arv.set Ar33 q33 S33 M33 Hs33 G33 rfl W34 10 rfl (Nat.le_of_ble_eq_true rfl)
  have KK34 : Keep h0 h34 [] := KK31.wr W34 (Or.inr sz_b1)
  have OL34 := OL31.wr W34 g_b1
  have N34 := Fr.snoc X34 N31 g_b1
  obtain ⟨T35, X35, e35, st35⟩ := getS2 X34 hx hZ hown (host := "") (Or.inl (wd26 hw)) Via.refl e34 (pr23.ext OL34.2) (g := (mkF m 79 #[.val (.int p1), .val (.int p2), .unset, .unset, .unset, .unset] [(.int (11 : Int32)), (.ref b1), (.ref b1)])) rfl (hb hby at_79)
  obtain ⟨cl36, Ar36, q36, S36, M36, Hs36, G36⟩ := id V34
  have hin36 : ¬ ((11 : Int32) < 0 ∨ cl36.slots.size ≤ ((11 : Int32)).toNatClampNeg) := inb_of S36 ⟨by decide, by decide⟩
  obtain ⟨T37, h37, X37, e37, W37, st37⟩ := stR X35 hx hZ e35 Ar36 (j := (11 : Int32)) hin36 rfl (Sto.ofV Ar36 q36 O1 (Ins.self (pr24.ext OL34.2))) (g := (mkF m 82 #[.val (.int p1), .val (.int p2), .unset, .unset, .unset, .unset] [(.ref w_BB), (.int (11 : Int32)), (.ref b1), (.ref b1)])) rfl rfl (hb hby at_82)
  have V37 : Arv Z h37 b1 k1 (.object "com/example/facility_atlas/facilityatlas/Rating") (21 : Int32) [(.ref w_AAA), (.ref w_AA_PLUS), (.ref w_AA), (.ref w_AA_MINUS), (.ref w_A_PLUS), (.ref w_A), (.ref w_A_MINUS), (.ref w_BBB_PLUS), (.ref w_BBB), (.ref w_BBB_MINUS), (.ref w_BB_PLUS), (.ref w_BB), .null, .null, .null, .null, .null, .null, .null, .null, .null] .null := Arv.set Ar36 q36 S36 M36 Hs36 G36 rfl W37 11 rfl (Nat.le_of_ble_eq_true rfl)
  have KK37 : Keep h0 h37 [] := KK34.wr W37 (Or.inr sz_b1)
  have OL37 := OL34.wr W37 g_b1
  have N37 := Fr.snoc X37 N34 g_b1
  obtain ⟨T38, X38, e38, st38⟩ := getS2 X37 hx hZ hown (host := "") (Or.inl (wd28 hw)) Via.refl e37 (pr25.ext OL37.2) (g := (mkF m 86 #[.val (.int p1), .val (.int p2), .unset, .unset, .unset, .unset] [(.int (12 : Int32)), (.ref b1), (.ref b1)])) rfl (hb hby at_86)
  obtain ⟨cl39, Ar39, q39, S39, M39, Hs39, G39⟩ := id V37
  have hin39 : ¬ ((12 : Int32) < 0 ∨ cl39.slots.size ≤ ((12 : Int32)).toNatClampNeg) := inb_of S39 ⟨by decide, by decide⟩
  obtain ⟨T40, h40, X40, e40, W40, st40⟩ := stR X38 hx hZ e38 Ar39 (j := (12 : Int32)) hin39 rfl (Sto.ofV Ar39 q39 O1 (Ins.self (pr26.ext OL37.2))) (g := (mkF m 89 #[.val (.int p1), .val (.int p2), .unset, .unset, .unset, .unset] [(.ref w_BB_MINUS), (.int (12 : Int32)), (.ref b1), (.ref b1)])) rfl rfl (hb hby at_89)
  have V40 : Arv Z h40 b1 k1 (.object "com/example/facility_atlas/facilityatlas/Rating") (21 : Int32) [(.ref w_AAA), (.ref w_AA_PLUS), (.ref w_AA), (.ref w_AA_MINUS), (.ref w_A_PLUS), (.ref w_A), (.ref w_A_MINUS), (.ref w_BBB_PLUS), (.ref w_BBB), (.ref w_BBB_MINUS), (.ref w_BB_PLUS), (.ref w_BB), (.ref w_BB_MINUS), .null, .null, .null, .null, .null, .null, .null, .null] .null := Arv.set Ar39 q39 S39 M39 Hs39 G39 rfl W40 12 rfl (Nat.le_of_ble_eq_true rfl)
  have KK40 : Keep h0 h40 [] := KK37.wr W40 (Or.inr sz_b1)
  have OL40 := OL37.wr W40 g_b1
  have N40 := Fr.snoc X40 N37 g_b1
  obtain ⟨T41, X41, e41, st41⟩ := getS2 X40 hx hZ hown (host := "") (Or.inl (wd30 hw)) Via.refl e40 (pr27.ext OL40.2) (g := (mkF m 93 #[.val (.int p1), .val (.int p2), .unset, .unset, .unset, .unset] [(.int (13 : Int32)), (.ref b1), (.ref b1)])) rfl (hb hby at_93)
  obtain ⟨cl42, Ar42, q42, S42, M42, Hs42, G42⟩ := id V40
  have hin42 : ¬ ((13 : Int32) < 0 ∨ cl42.slots.size ≤ ((13 : Int32)).toNatClampNeg) := inb_of S42 ⟨by decide, by decide⟩
  obtain ⟨T43, h43, X43, e43, W43, st43⟩ := stR X41 hx hZ e41 Ar42 (j := (13 : Int32)) hin42 rfl (Sto.ofV Ar42 q42 O1 (Ins.self (pr28.ext OL40.2))) (g := (mkF m 96 #[.val (.int p1), .val (.int p2), .unset, .unset, .unset, .unset] [(.ref w_B_PLUS), (.int (13 : Int32)), (.ref b1), (.ref b1)])) rfl rfl (hb hby at_96)
  have V43 : Arv Z h43 b1 k1 (.object "com/example/facility_atlas/facilityatlas/Rating") (21 : Int32) [(.ref w_AAA), (.ref w_AA_PLUS), (.ref w_AA), (.ref w_AA_MINUS), (.ref w_A_PLUS), (.ref w_A), (.ref w_A_MINUS), (.ref w_BBB_PLUS), (.ref w_BBB), (.ref w_BBB_MINUS), (.ref w_BB_PLUS), (.ref w_BB), (.ref w_BB_MINUS), (.ref w_B_PLUS), .null, .null, .null, .null, .null, .null, .null] .null := Arv.set Ar42 q42 S42 M42 Hs42 G42 rfl W43 13 rfl (Nat.le_of_ble_eq_true rfl)
  have KK43 : Keep h0 h43 [] := KK40.wr W43 (Or.inr sz_b1)
  have OL43 := OL40.wr W43 g_b1
  have N43 := Fr.snoc X43 N40 g_b1
  obtain ⟨T44, X44, e44, st44⟩ := getS2 X43 hx hZ hown (host := "") (Or.inl (wd32 hw)) Via.refl e43 (pr29.ext OL43.2) (g := (mkF m 100 #[.val (.int p1), .val (.int p2), .unset, .unset, .unset, .unset] [(.int (14 : Int32)), (.ref b1), (.ref b1)])) rfl (hb hby at_100)
  obtain ⟨cl45, Ar45, q45, S45, M45, Hs45, G45⟩ := id V43
  have hin45 : ¬ ((14 : Int32) < 0 ∨ cl45.slots.size ≤ ((14 : Int32)).toNatClampNeg) := inb_of S45 ⟨by decide, by decide⟩
  obtain ⟨T46, h46, X46, e46, W46, st46⟩ := stR X44 hx hZ e44 Ar45 (j := (14 : Int32)) hin45 rfl (Sto.ofV Ar45 q45 O1 (Ins.self (pr30.ext OL43.2))) (g := (mkF m 103 #[.val (.int p1), .val (.int p2), .unset, .unset, .unset, .unset] [(.ref w_B), (.int (14 : Int32)), (.ref b1), (.ref b1)])) rfl rfl (hb hby at_103)
  have V46 : Arv Z h46 b1 k1 (.object "com/example/facility_atlas/facilityatlas/Rating") (21 : Int32) [(.ref w_AAA), (.ref w_AA_PLUS), (.ref w_AA), (.ref w_AA_MINUS), (.ref w_A_PLUS), (.ref w_A), (.ref w_A_MINUS), (.ref w_BBB_PLUS), (.ref w_BBB), (.ref w_BBB_MINUS), (.ref w_BB_PLUS), (.ref w_BB), (.ref w_BB_MINUS), (.ref w_B_PLUS), (.ref w_B), .null, .null, .null, .null, .null, .null] .null := Arv.set Ar45 q45 S45 M45 Hs45 G45 rfl W46 14 rfl (Nat.le_of_ble_eq_true rfl)
  have KK46 : Keep h0 h46 [] := KK43.wr W46 (Or.inr sz_b1)
  have OL46 := OL43.wr W46 g_b1
  have N46 := Fr.snoc X46 N43 g_b1
  obtain ⟨T47, X47, e47, st47⟩ := getS2 X46 hx hZ hown (host := "") (Or.inl (wd34 hw)) Via.refl e46 (pr31.ext OL46.2) (g := (mkF m 107 #[.val (.int p1), .val (.int p2), .unset, .unset, .unset, .unset] [(.int (15 : Int32)), (.ref b1), (.ref b1)])) rfl (hb hby at_107)
  obtain ⟨cl48, Ar48, q48, S48, M48, Hs48, G48⟩ := id V46
  have hin48 : ¬ ((15 : Int32) < 0 ∨ cl48.slots.size ≤ ((15 : Int32)).toNatClampNeg) := inb_of S48 ⟨by decide, by decide⟩
  obtain ⟨T49, h49, X49, e49, W49, st49⟩ := stR X47 hx hZ e47 Ar48 (j := (15 : Int32)) hin48 rfl (Sto.ofV Ar48 q48 O1 (Ins.self (pr32.ext OL46.2))) (g := (mkF m 110 #[.val (.int p1), .val (.int p2), .unset, .unset, .unset, .unset] [(.ref w_B_MINUS), (.int (15 : Int32)), (.ref b1), (.ref b1)])) rfl rfl (hb hby at_110)
  have V49 : Arv Z h49 b1 k1 (.object "com/example/facility_atlas/facilityatlas/Rating") (21 : Int32) [(.ref w_AAA), (.ref w_AA_PLUS), (.ref w_AA), (.ref w_AA_MINUS), (.ref w_A_PLUS), (.ref w_A), (.ref w_A_MINUS), (.ref w_BBB_PLUS), (.ref w_BBB), (.ref w_BBB_MINUS), (.ref w_BB_PLUS), (.ref w_BB), (.ref w_BB_MINUS), (.ref w_B_PLUS), (.ref w_B), (.ref w_B_MINUS), .null, .null, .null, .null, .null] .null := Arv.set Ar48 q48 S48 M48 Hs48 G48 rfl W49 15 rfl (Nat.le_of_ble_eq_true rfl)
  have KK49 : Keep h0 h49 [] := KK46.wr W49 (Or.inr sz_b1)
  have OL49 := OL46.wr W49 g_b1
  have N49 := Fr.snoc X49 N46 g_b1
  obtain ⟨T50, X50, e50, st50⟩ := getS2 X49 hx hZ hown (host := "") (Or.inl (wd36 hw)) Via.refl e49 (pr33.ext OL49.2) (g := (mkF m 114 #[.val (.int p1), .val (.int p2), .unset, .unset, .unset, .unset] [(.int (16 : Int32)), (.ref b1), (.ref b1)])) rfl (hb hby at_114)
  obtain ⟨cl51, Ar51, q51, S51, M51, Hs51, G51⟩ := id V49
  have hin51 : ¬ ((16 : Int32) < 0 ∨ cl51.slots.size ≤ ((16 : Int32)).toNatClampNeg) := inb_of S51 ⟨by decide, by decide⟩
  obtain ⟨T52, h52, X52, e52, W52, st52⟩ := stR X50 hx hZ e50 Ar51 (j := (16 : Int32)) hin51 rfl (Sto.ofV Ar51 q51 O1 (Ins.self (pr34.ext OL49.2))) (g := (mkF m 117 #[.val (.int p1), .val (.int p2), .unset, .unset, .unset, .unset] [(.ref w_CCC_PLUS), (.int (16 : Int32)), (.ref b1), (.ref b1)])) rfl rfl (hb hby at_117)
  have V52 : Arv Z h52 b1 k1 (.object "com/example/facility_atlas/facilityatlas/Rating") (21 : Int32) [(.ref w_AAA), (.ref w_AA_PLUS), (.ref w_AA), (.ref w_AA_MINUS), (.ref w_A_PLUS), (.ref w_A), (.ref w_A_MINUS), (.ref w_BBB_PLUS), (.ref w_BBB), (.ref w_BBB_MINUS), (.ref w_BB_PLUS), (.ref w_BB), (.ref w_BB_MINUS), (.ref w_B_PLUS), (.ref w_B), (.ref w_B_MINUS), (.ref w_CCC_PLUS), .null, .null, .null, .null] .null := Arv.set Ar51 q51 S51 M51 Hs51 G51 rfl W52 16 rfl (Nat.le_of_ble_eq_true rfl)
  have KK52 : Keep h0 h52 [] := KK49.wr W52 (Or.inr sz_b1)
  have OL52 := OL49.wr W52 g_b1
  have N52 := Fr.snoc X52 N49 g_b1
  obtain ⟨T53, X53, e53, st53⟩ := getS2 X52 hx hZ hown (host := "") (Or.inl (wd38 hw)) Via.refl e52 (pr35.ext OL52.2) (g := (mkF m 121 #[.val (.int p1), .val (.int p2), .unset, .unset, .unset, .unset] [(.int (17 : Int32)), (.ref b1), (.ref b1)])) rfl (hb hby at_121)
  obtain ⟨cl54, Ar54, q54, S54, M54, Hs54, G54⟩ := id V52
  have hin54 : ¬ ((17 : Int32) < 0 ∨ cl54.slots.size ≤ ((17 : Int32)).toNatClampNeg) := inb_of S54 ⟨by decide, by decide⟩
  obtain ⟨T55, h55, X55, e55, W55, st55⟩ := stR X53 hx hZ e53 Ar54 (j := (17 : Int32)) hin54 rfl (Sto.ofV Ar54 q54 O1 (Ins.self (pr36.ext OL52.2))) (g := (mkF m 124 #[.val (.int p1), .val (.int p2), .unset, .unset, .unset, .unset] [(.ref w_CCC), (.int (17 : Int32)), (.ref b1), (.ref b1)])) rfl rfl (hb hby at_124)
  have V55 : Arv Z h55 b1 k1 (.object "com/example/facility_atlas/facilityatlas/Rating") (21 : Int32) [(.ref w_AAA), (.ref w_AA_PLUS), (.ref w_AA), (.ref w_AA_MINUS), (.ref w_A_PLUS), (.ref w_A), (.ref w_A_MINUS), (.ref w_BBB_PLUS), (.ref w_BBB), (.ref w_BBB_MINUS), (.ref w_BB_PLUS), (.ref w_BB), (.ref w_BB_MINUS), (.ref w_B_PLUS), (.ref w_B), (.ref w_B_MINUS), (.ref w_CCC_PLUS), (.ref w_CCC), .null, .null, .null] .null := Arv.set Ar54 q54 S54 M54 Hs54 G54 rfl W55 17 rfl (Nat.le_of_ble_eq_true rfl)
  have KK55 : Keep h0 h55 [] := KK52.wr W55 (Or.inr sz_b1)
  have OL55 := OL52.wr W55 g_b1
  have N55 := Fr.snoc X55 N52 g_b1
  obtain ⟨T56, X56, e56, st56⟩ := getS2 X55 hx hZ hown (host := "") (Or.inl (wd40 hw)) Via.refl e55 (pr37.ext OL55.2) (g := (mkF m 128 #[.val (.int p1), .val (.int p2), .unset, .unset, .unset, .unset] [(.int (18 : Int32)), (.ref b1), (.ref b1)])) rfl (hb hby at_128)
  obtain ⟨cl57, Ar57, q57, S57, M57, Hs57, G57⟩ := id V55
  have hin57 : ¬ ((18 : Int32) < 0 ∨ cl57.slots.size ≤ ((18 : Int32)).toNatClampNeg) := inb_of S57 ⟨by decide, by decide⟩
  obtain ⟨T58, h58, X58, e58, W58, st58⟩ := stR X56 hx hZ e56 Ar57 (j := (18 : Int32)) hin57 rfl (Sto.ofV Ar57 q57 O1 (Ins.self (pr38.ext OL55.2))) (g := (mkF m 131 #[.val (.int p1), .val (.int p2), .unset, .unset, .unset, .unset] [(.ref w_CCC_MINUS), (.int (18 : Int32)), (.ref b1), (.ref b1)])) rfl rfl (hb hby at_131)
  have V58 : Arv Z h58 b1 k1 (.object "com/example/facility_atlas/facilityatlas/Rating") (21 : Int32) [(.ref w_AAA), (.ref w_AA_PLUS), (.ref w_AA), (.ref w_AA_MINUS), (.ref w_A_PLUS), (.ref w_A), (.ref w_A_MINUS), (.ref w_BBB_PLUS), (.ref w_BBB), (.ref w_BBB_MINUS), (.ref w_BB_PLUS), (.ref w_BB), (.ref w_BB_MINUS), (.ref w_B_PLUS), (.ref w_B), (.ref w_B_MINUS), (.ref w_CCC_PLUS), (.ref w_CCC), (.ref w_CCC_MINUS), .null, .null] .null := Arv.set Ar57 q57 S57 M57 Hs57 G57 rfl W58 18 rfl (Nat.le_of_ble_eq_true rfl)
  have KK58 : Keep h0 h58 [] := KK55.wr W58 (Or.inr sz_b1)
  have OL58 := OL55.wr W58 g_b1
  have N58 := Fr.snoc X58 N55 g_b1
  obtain ⟨T59, X59, e59, st59⟩ := getS2 X58 hx hZ hown (host := "") (Or.inl (wd42 hw)) Via.refl e58 (pr39.ext OL58.2) (g := (mkF m 135 #[.val (.int p1), .val (.int p2), .unset, .unset, .unset, .unset] [(.int (19 : Int32)), (.ref b1), (.ref b1)])) rfl (hb hby at_135)
  obtain ⟨cl60, Ar60, q60, S60, M60, Hs60, G60⟩ := id V58
  have hin60 : ¬ ((19 : Int32) < 0 ∨ cl60.slots.size ≤ ((19 : Int32)).toNatClampNeg) := inb_of S60 ⟨by decide, by decide⟩
  obtain ⟨T61, h61, X61, e61, W61, st61⟩ := stR X59 hx hZ e59 Ar60 (j := (19 : Int32)) hin60 rfl (Sto.ofV Ar60 q60 O1 (Ins.self (pr40.ext OL58.2))) (g := (mkF m 138 #[.val (.int p1), .val (.int p2), .unset, .unset, .unset, .unset] [(.ref w_CC), (.int (19 : Int32)), (.ref b1), (.ref b1)])) rfl rfl (hb hby at_138)
  have V61 : Arv Z h61 b1 k1 (.object "com/example/facility_atlas/facilityatlas/Rating") (21 : Int32) [(.ref w_AAA), (.ref w_AA_PLUS), (.ref w_AA), (.ref w_AA_MINUS), (.ref w_A_PLUS), (.ref w_A), (.ref w_A_MINUS), (.ref w_BBB_PLUS), (.ref w_BBB), (.ref w_BBB_MINUS), (.ref w_BB_PLUS), (.ref w_BB), (.ref w_BB_MINUS), (.ref w_B_PLUS), (.ref w_B), (.ref w_B_MINUS), (.ref w_CCC_PLUS), (.ref w_CCC), (.ref w_CCC_MINUS), (.ref w_CC), .null] .null := Arv.set Ar60 q60 S60 M60 Hs60 G60 rfl W61 19 rfl (Nat.le_of_ble_eq_true rfl)
  have KK61 : Keep h0 h61 [] := KK58.wr W61 (Or.inr sz_b1)
  have OL61 := OL58.wr W61 g_b1
  have N61 := Fr.snoc X61 N58 g_b1
  obtain ⟨T62, X62, e62, st62⟩ := getS2 X61 hx hZ hown (host := "") (Or.inl (wd44 hw)) Via.refl e61 (pr41.ext OL61.2) (g := (mkF m 142 #[.val (.int p1), .val (.int p2), .unset, .unset, .unset, .unset] [(.int (20 : Int32)), (.ref b1), (.ref b1)])) rfl (hb hby at_142)
  obtain ⟨cl63, Ar63, q63, S63, M63, Hs63, G63⟩ := id V61
  have hin63 : ¬ ((20 : Int32) < 0 ∨ cl63.slots.size ≤ ((20 : Int32)).toNatClampNeg) := inb_of S63 ⟨by decide, by decide⟩
  obtain ⟨T64, h64, X64, e64, W64, st64⟩ := stR X62 hx hZ e62 Ar63 (j := (20 : Int32)) hin63 rfl (Sto.ofV Ar63 q63 O1 (Ins.self (pr42.ext OL61.2))) (g := (mkF m 145 #[.val (.int p1), .val (.int p2), .unset, .unset, .unset, .unset] [(.ref w_C), (.int (20 : Int32)), (.ref b1), (.ref b1)])) rfl rfl (hb hby at_145)
  have V64 : Arv Z h64 b1 k1 (.object "com/example/facility_atlas/facilityatlas/Rating") (21 : Int32) [(.ref w_AAA), (.ref w_AA_PLUS), (.ref w_AA), (.ref w_AA_MINUS), (.ref w_A_PLUS), (.ref w_A), (.ref w_A_MINUS), (.ref w_BBB_PLUS), (.ref w_BBB), (.ref w_BBB_MINUS), (.ref w_BB_PLUS), (.ref w_BB), (.ref w_BB_MINUS), (.ref w_B_PLUS), (.ref w_B), (.ref w_B_MINUS), (.ref w_CCC_PLUS), (.ref w_CCC), (.ref w_CCC_MINUS), (.ref w_CC), (.ref w_C)] .null := Arv.set Ar63 q63 S63 M63 Hs63 G63 rfl W64 20 rfl (Nat.le_of_ble_eq_true rfl)
  have KK64 : Keep h0 h64 [] := KK61.wr W64 (Or.inr sz_b1)
  have OL64 := OL61.wr W64 g_b1
  have N64 := Fr.snoc X64 N61 g_b1
  obtain ⟨cl65, Ar65, -, S65, -, Hs65, -⟩ := id V64
  have hin65 : ¬ (((p1 &&& (2147483647 : Int32)) % (21 : Int32)) < 0 ∨ cl65.slots.size ≤ (((p1 &&& (2147483647 : Int32)) % (21 : Int32))).toNatClampNeg) := inb_of S65 ⟨pr44, pr45⟩
  have hat65 : cl65.slots[(((p1 &&& (2147483647 : Int32)) % (21 : Int32))).toNatClampNeg]? = some (.ref v1) := Hs65.at hin65 pr46
  obtain ⟨cl66, Ar66, -, S66, -, Hs66, -⟩ := id V64
  have hin66 : ¬ (((p2 &&& (2147483647 : Int32)) % (21 : Int32)) < 0 ∨ cl66.slots.size ≤ (((p2 &&& (2147483647 : Int32)) % (21 : Int32))).toNatClampNeg) := inb_of S66 ⟨pr47, pr48⟩
  have hat66 : cl66.slots[(((p2 &&& (2147483647 : Int32)) % (21 : Int32))).toNatClampNeg]? = some (.ref v2) := Hs66.at hin66 pr49
  obtain ⟨cq67, kq67, q67a, q67b, q67c⟩ := isOf hZ e64 (pr51.ext OL64.2)
  obtain ⟨_, _, ⟨T67, L67, k67, n67⟩, -, X67, ⟨Lc67, hQ67, l67, y67, z67⟩, st67⟩ := X64.virtualBack hx (y := (⟨"com/example/facility_atlas/facilityatlas/Rating", "isAtOrAbove", "(Lcom/example/facility_atlas/facilityatlas/Rating;)Z"⟩ : MethodName)) (z := (⟨"com/example/facility_atlas/facilityatlas/Rating", "isAtOrAbove", "(Lcom/example/facility_atlas/facilityatlas/Rating;)Z"⟩ : MethodName)) hown (mvT hZ (wd47 hw)) (mvT hZ (wd48 hw)) (notFace_of_selects (args := #[]) (mvT hZ (wd50 hw))) (mvT hZ (wd50 hw)) (mvT hZ (wd49 hw)) (by decide) (backOf (W := 0) (rm1_0 l Z a0 hw [] v1 v2 ((p1 &&& (2147483647 : Int32)) % (21 : Int32)) ((p2 &&& (2147483647 : Int32)) % (21 : Int32)) h64 n0 OL64 pr50 pr51 pr52 pr53 pr43) hZ (wd51 hw) (wd3 hw) (by decide) (by decide)) q67a q67c (g := (mkF m 184 #[.val (.int p1), .val (.int p2), .val (.ref b1), .val (.int ((p1 &&& (2147483647 : Int32)) % (21 : Int32))), .val (.int ((p2 &&& (2147483647 : Int32)) % (21 : Int32))), .val (.int (1 : Int32))] [(.ref v2), (.ref v1)])) rfl (by rw [hml]; rfl) (Steps.refl _) (argsL := [(.ref v2)]) (rest := []) (lenOf pd_1 rfl) rfl (by show 2 * 0 + _ ≤ _; exact Nat.le_of_eq rfl) (hb hby at_184) (fun _ _ => ⟨rfl, e64, (by decide : 1 + 0 ≤ _), (by decide : 21 + 0 ≤ _)⟩)
  dsimp only [Pt.U, Pt.locs, Pt.cells, Pt.slots] at X67 l67 y67 z67 st67 hQ67
  subst l67 y67 z67
  obtain ⟨rfl, Nq67, ec67⟩ := hQ67
  have N67 := Fr.app N64 Nq67
  obtain ⟨fs, hr, hrun, hended, hW, hsame⟩ := X67.leave (v := some (.int (1 : Int32))) (fun h => by rw [Bd.returns] at h; cases h)
  refine ⟨_, _, pre0 _ ?_, hrun, hended, _, _, rfl, ?_, ⟨_, rfl⟩, hW, hsame.mono (by decide) (by decide)⟩
  · show Steps p.tables e below (s₁.setTop (mkF m 0 #[.val (.int p1), .val (.int p2), .unset, .unset, .unset, .unset] [])) _
    refine XS.bipush X0.here hx rfl (hb hby at_0) ?_
    show Steps p.tables e below (s₁.setTop (mkF m 2 #[.val (.int p1), .val (.int p2), .unset, .unset, .unset, .unset] [(.int (21 : Int32))])) _
    refine st1 _ ?_
    show Steps p.tables e below (T1.setTop (mkF m 5 #[.val (.int p1), .val (.int p2), .unset, .unset, .unset, .unset] [(.ref b1)])) _
    refine XS.dup X1.here hx rfl (hb hby at_5) rfl rfl ?_
    show Steps p.tables e below (T1.setTop (mkF m 6 #[.val (.int p1), .val (.int p2), .unset, .unset, .unset, .unset] [(.ref b1), (.ref b1)])) _
    refine XS.iconst X1.here hx rfl (hb hby at_6) ?_
    show Steps p.tables e below (T1.setTop (mkF m 7 #[.val (.int p1), .val (.int p2), .unset, .unset, .unset, .unset] [(.int (0 : Int32)), (.ref b1), (.ref b1)])) _
    refine st2 _ ?_
    show Steps p.tables e below (T2.setTop (mkF m 10 #[.val (.int p1), .val (.int p2), .unset, .unset, .unset, .unset] [(.ref w_AAA), (.int (0 : Int32)), (.ref b1), (.ref b1)])) _
    refine st4 _ ?_
    show Steps p.tables e below (T4.setTop (mkF m 11 #[.val (.int p1), .val (.int p2), .unset, .unset, .unset, .unset] [(.ref b1)])) _
    refine XS.dup X4.here hx rfl (hb hby at_11) rfl rfl ?_
    show Steps p.tables e below (T4.setTop (mkF m 12 #[.val (.int p1), .val (.int p2), .unset, .unset, .unset, .unset] [(.ref b1), (.ref b1)])) _
    refine XS.iconst X4.here hx rfl (hb hby at_12) ?_
    show Steps p.tables e below (T4.setTop (mkF m 13 #[.val (.int p1), .val (.int p2), .unset, .unset, .unset, .unset] [(.int (1 : Int32)), (.ref b1), (.ref b1)])) _
    refine st5 _ ?_
    show Steps p.tables e below (T5.setTop (mkF m 16 #[.val (.int p1), .val (.int p2), .unset, .unset, .unset, .unset] [(.ref w_AA_PLUS), (.int (1 : Int32)), (.ref b1), (.ref b1)])) _
    refine st7 _ ?_
    show Steps p.tables e below (T7.setTop (mkF m 17 #[.val (.int p1), .val (.int p2), .unset, .unset, .unset, .unset] [(.ref b1)])) _
    refine XS.dup X7.here hx rfl (hb hby at_17) rfl rfl ?_
    show Steps p.tables e below (T7.setTop (mkF m 18 #[.val (.int p1), .val (.int p2), .unset, .unset, .unset, .unset] [(.ref b1), (.ref b1)])) _
    refine XS.iconst X7.here hx rfl (hb hby at_18) ?_
    show Steps p.tables e below (T7.setTop (mkF m 19 #[.val (.int p1), .val (.int p2), .unset, .unset, .unset, .unset] [(.int (2 : Int32)), (.ref b1), (.ref b1)])) _
    refine st8 _ ?_
    show Steps p.tables e below (T8.setTop (mkF m 22 #[.val (.int p1), .val (.int p2), .unset, .unset, .unset, .unset] [(.ref w_AA), (.int (2 : Int32)), (.ref b1), (.ref b1)])) _
    refine st10 _ ?_
    show Steps p.tables e below (T10.setTop (mkF m 23 #[.val (.int p1), .val (.int p2), .unset, .unset, .unset, .unset] [(.ref b1)])) _
    refine XS.dup X10.here hx rfl (hb hby at_23) rfl rfl ?_
    show Steps p.tables e below (T10.setTop (mkF m 24 #[.val (.int p1), .val (.int p2), .unset, .unset, .unset, .unset] [(.ref b1), (.ref b1)])) _
    refine XS.iconst X10.here hx rfl (hb hby at_24) ?_
    show Steps p.tables e below (T10.setTop (mkF m 25 #[.val (.int p1), .val (.int p2), .unset, .unset, .unset, .unset] [(.int (3 : Int32)), (.ref b1), (.ref b1)])) _
    refine st11 _ ?_
    show Steps p.tables e below (T11.setTop (mkF m 28 #[.val (.int p1), .val (.int p2), .unset, .unset, .unset, .unset] [(.ref w_AA_MINUS), (.int (3 : Int32)), (.ref b1), (.ref b1)])) _
    refine st13 _ ?_
    show Steps p.tables e below (T13.setTop (mkF m 29 #[.val (.int p1), .val (.int p2), .unset, .unset, .unset, .unset] [(.ref b1)])) _
    refine XS.dup X13.here hx rfl (hb hby at_29) rfl rfl ?_
    show Steps p.tables e below (T13.setTop (mkF m 30 #[.val (.int p1), .val (.int p2), .unset, .unset, .unset, .unset] [(.ref b1), (.ref b1)])) _
    refine XS.iconst X13.here hx rfl (hb hby at_30) ?_
    show Steps p.tables e below (T13.setTop (mkF m 31 #[.val (.int p1), .val (.int p2), .unset, .unset, .unset, .unset] [(.int (4 : Int32)), (.ref b1), (.ref b1)])) _
    refine st14 _ ?_
    show Steps p.tables e below (T14.setTop (mkF m 34 #[.val (.int p1), .val (.int p2), .unset, .unset, .unset, .unset] [(.ref w_A_PLUS), (.int (4 : Int32)), (.ref b1), (.ref b1)])) _
    refine st16 _ ?_
    show Steps p.tables e below (T16.setTop (mkF m 35 #[.val (.int p1), .val (.int p2), .unset, .unset, .unset, .unset] [(.ref b1)])) _
    refine XS.dup X16.here hx rfl (hb hby at_35) rfl rfl ?_
    show Steps p.tables e below (T16.setTop (mkF m 36 #[.val (.int p1), .val (.int p2), .unset, .unset, .unset, .unset] [(.ref b1), (.ref b1)])) _
    refine XS.iconst X16.here hx rfl (hb hby at_36) ?_
    show Steps p.tables e below (T16.setTop (mkF m 37 #[.val (.int p1), .val (.int p2), .unset, .unset, .unset, .unset] [(.int (5 : Int32)), (.ref b1), (.ref b1)])) _
    refine st17 _ ?_
    show Steps p.tables e below (T17.setTop (mkF m 40 #[.val (.int p1), .val (.int p2), .unset, .unset, .unset, .unset] [(.ref w_A), (.int (5 : Int32)), (.ref b1), (.ref b1)])) _
    refine st19 _ ?_
    show Steps p.tables e below (T19.setTop (mkF m 41 #[.val (.int p1), .val (.int p2), .unset, .unset, .unset, .unset] [(.ref b1)])) _
    refine XS.dup X19.here hx rfl (hb hby at_41) rfl rfl ?_
    show Steps p.tables e below (T19.setTop (mkF m 42 #[.val (.int p1), .val (.int p2), .unset, .unset, .unset, .unset] [(.ref b1), (.ref b1)])) _
    refine XS.bipush X19.here hx rfl (hb hby at_42) ?_
    show Steps p.tables e below (T19.setTop (mkF m 44 #[.val (.int p1), .val (.int p2), .unset, .unset, .unset, .unset] [(.int (6 : Int32)), (.ref b1), (.ref b1)])) _
    refine st20 _ ?_
    show Steps p.tables e below (T20.setTop (mkF m 47 #[.val (.int p1), .val (.int p2), .unset, .unset, .unset, .unset] [(.ref w_A_MINUS), (.int (6 : Int32)), (.ref b1), (.ref b1)])) _
    refine st22 _ ?_
    show Steps p.tables e below (T22.setTop (mkF m 48 #[.val (.int p1), .val (.int p2), .unset, .unset, .unset, .unset] [(.ref b1)])) _
    refine XS.dup X22.here hx rfl (hb hby at_48) rfl rfl ?_
    show Steps p.tables e below (T22.setTop (mkF m 49 #[.val (.int p1), .val (.int p2), .unset, .unset, .unset, .unset] [(.ref b1), (.ref b1)])) _
    refine XS.bipush X22.here hx rfl (hb hby at_49) ?_
    show Steps p.tables e below (T22.setTop (mkF m 51 #[.val (.int p1), .val (.int p2), .unset, .unset, .unset, .unset] [(.int (7 : Int32)), (.ref b1), (.ref b1)])) _
    refine st23 _ ?_
    show Steps p.tables e below (T23.setTop (mkF m 54 #[.val (.int p1), .val (.int p2), .unset, .unset, .unset, .unset] [(.ref w_BBB_PLUS), (.int (7 : Int32)), (.ref b1), (.ref b1)])) _
    refine st25 _ ?_
    show Steps p.tables e below (T25.setTop (mkF m 55 #[.val (.int p1), .val (.int p2), .unset, .unset, .unset, .unset] [(.ref b1)])) _
    refine XS.dup X25.here hx rfl (hb hby at_55) rfl rfl ?_
    show Steps p.tables e below (T25.setTop (mkF m 56 #[.val (.int p1), .val (.int p2), .unset, .unset, .unset, .unset] [(.ref b1), (.ref b1)])) _
    refine XS.bipush X25.here hx rfl (hb hby at_56) ?_
    show Steps p.tables e below (T25.setTop (mkF m 58 #[.val (.int p1), .val (.int p2), .unset, .unset, .unset, .unset] [(.int (8 : Int32)), (.ref b1), (.ref b1)])) _
    refine st26 _ ?_
    show Steps p.tables e below (T26.setTop (mkF m 61 #[.val (.int p1), .val (.int p2), .unset, .unset, .unset, .unset] [(.ref w_BBB), (.int (8 : Int32)), (.ref b1), (.ref b1)])) _
    refine st28 _ ?_
    show Steps p.tables e below (T28.setTop (mkF m 62 #[.val (.int p1), .val (.int p2), .unset, .unset, .unset, .unset] [(.ref b1)])) _
    refine XS.dup X28.here hx rfl (hb hby at_62) rfl rfl ?_
    show Steps p.tables e below (T28.setTop (mkF m 63 #[.val (.int p1), .val (.int p2), .unset, .unset, .unset, .unset] [(.ref b1), (.ref b1)])) _
    refine XS.bipush X28.here hx rfl (hb hby at_63) ?_
    show Steps p.tables e below (T28.setTop (mkF m 65 #[.val (.int p1), .val (.int p2), .unset, .unset, .unset, .unset] [(.int (9 : Int32)), (.ref b1), (.ref b1)])) _
    refine st29 _ ?_
    show Steps p.tables e below (T29.setTop (mkF m 68 #[.val (.int p1), .val (.int p2), .unset, .unset, .unset, .unset] [(.ref w_BBB_MINUS), (.int (9 : Int32)), (.ref b1), (.ref b1)])) _
    refine st31 _ ?_
    show Steps p.tables e below (T31.setTop (mkF m 69 #[.val (.int p1), .val (.int p2), .unset, .unset, .unset, .unset] [(.ref b1)])) _
    refine XS.dup X31.here hx rfl (hb hby at_69) rfl rfl ?_
    show Steps p.tables e below (T31.setTop (mkF m 70 #[.val (.int p1), .val (.int p2), .unset, .unset, .unset, .unset] [(.ref b1), (.ref b1)])) _
    refine XS.bipush X31.here hx rfl (hb hby at_70) ?_
    show Steps p.tables e below (T31.setTop (mkF m 72 #[.val (.int p1), .val (.int p2), .unset, .unset, .unset, .unset] [(.int (10 : Int32)), (.ref b1), (.ref b1)])) _
    refine st32 _ ?_
    show Steps p.tables e below (T32.setTop (mkF m 75 #[.val (.int p1), .val (.int p2), .unset, .unset, .unset, .unset] [(.ref w_BB_PLUS), (.int (10 : Int32)), (.ref b1), (.ref b1)])) _
    refine st34 _ ?_
    show Steps p.tables e below (T34.setTop (mkF m 76 #[.val (.int p1), .val (.int p2), .unset, .unset, .unset, .unset] [(.ref b1)])) _
    refine XS.dup X34.here hx rfl (hb hby at_76) rfl rfl ?_
    show Steps p.tables e below (T34.setTop (mkF m 77 #[.val (.int p1), .val (.int p2), .unset, .unset, .unset, .unset] [(.ref b1), (.ref b1)])) _
    refine XS.bipush X34.here hx rfl (hb hby at_77) ?_
    show Steps p.tables e below (T34.setTop (mkF m 79 #[.val (.int p1), .val (.int p2), .unset, .unset, .unset, .unset] [(.int (11 : Int32)), (.ref b1), (.ref b1)])) _
    refine st35 _ ?_
    show Steps p.tables e below (T35.setTop (mkF m 82 #[.val (.int p1), .val (.int p2), .unset, .unset, .unset, .unset] [(.ref w_BB), (.int (11 : Int32)), (.ref b1), (.ref b1)])) _
    refine st37 _ ?_
    show Steps p.tables e below (T37.setTop (mkF m 83 #[.val (.int p1), .val (.int p2), .unset, .unset, .unset, .unset] [(.ref b1)])) _
    refine XS.dup X37.here hx rfl (hb hby at_83) rfl rfl ?_
    show Steps p.tables e below (T37.setTop (mkF m 84 #[.val (.int p1), .val (.int p2), .unset, .unset, .unset, .unset] [(.ref b1), (.ref b1)])) _
    refine XS.bipush X37.here hx rfl (hb hby at_84) ?_
    show Steps p.tables e below (T37.setTop (mkF m 86 #[.val (.int p1), .val (.int p2), .unset, .unset, .unset, .unset] [(.int (12 : Int32)), (.ref b1), (.ref b1)])) _
    refine st38 _ ?_
    show Steps p.tables e below (T38.setTop (mkF m 89 #[.val (.int p1), .val (.int p2), .unset, .unset, .unset, .unset] [(.ref w_BB_MINUS), (.int (12 : Int32)), (.ref b1), (.ref b1)])) _
    refine st40 _ ?_
    show Steps p.tables e below (T40.setTop (mkF m 90 #[.val (.int p1), .val (.int p2), .unset, .unset, .unset, .unset] [(.ref b1)])) _
    refine XS.dup X40.here hx rfl (hb hby at_90) rfl rfl ?_
    show Steps p.tables e below (T40.setTop (mkF m 91 #[.val (.int p1), .val (.int p2), .unset, .unset, .unset, .unset] [(.ref b1), (.ref b1)])) _
    refine XS.bipush X40.here hx rfl (hb hby at_91) ?_
    show Steps p.tables e below (T40.setTop (mkF m 93 #[.val (.int p1), .val (.int p2), .unset, .unset, .unset, .unset] [(.int (13 : Int32)), (.ref b1), (.ref b1)])) _
    refine st41 _ ?_
    show Steps p.tables e below (T41.setTop (mkF m 96 #[.val (.int p1), .val (.int p2), .unset, .unset, .unset, .unset] [(.ref w_B_PLUS), (.int (13 : Int32)), (.ref b1), (.ref b1)])) _
    refine st43 _ ?_
    show Steps p.tables e below (T43.setTop (mkF m 97 #[.val (.int p1), .val (.int p2), .unset, .unset, .unset, .unset] [(.ref b1)])) _
    refine XS.dup X43.here hx rfl (hb hby at_97) rfl rfl ?_
    show Steps p.tables e below (T43.setTop (mkF m 98 #[.val (.int p1), .val (.int p2), .unset, .unset, .unset, .unset] [(.ref b1), (.ref b1)])) _
    refine XS.bipush X43.here hx rfl (hb hby at_98) ?_
    show Steps p.tables e below (T43.setTop (mkF m 100 #[.val (.int p1), .val (.int p2), .unset, .unset, .unset, .unset] [(.int (14 : Int32)), (.ref b1), (.ref b1)])) _
    refine st44 _ ?_
    show Steps p.tables e below (T44.setTop (mkF m 103 #[.val (.int p1), .val (.int p2), .unset, .unset, .unset, .unset] [(.ref w_B), (.int (14 : Int32)), (.ref b1), (.ref b1)])) _
    refine st46 _ ?_
    show Steps p.tables e below (T46.setTop (mkF m 104 #[.val (.int p1), .val (.int p2), .unset, .unset, .unset, .unset] [(.ref b1)])) _
    refine XS.dup X46.here hx rfl (hb hby at_104) rfl rfl ?_
    show Steps p.tables e below (T46.setTop (mkF m 105 #[.val (.int p1), .val (.int p2), .unset, .unset, .unset, .unset] [(.ref b1), (.ref b1)])) _
    refine XS.bipush X46.here hx rfl (hb hby at_105) ?_
    show Steps p.tables e below (T46.setTop (mkF m 107 #[.val (.int p1), .val (.int p2), .unset, .unset, .unset, .unset] [(.int (15 : Int32)), (.ref b1), (.ref b1)])) _
    refine st47 _ ?_
    show Steps p.tables e below (T47.setTop (mkF m 110 #[.val (.int p1), .val (.int p2), .unset, .unset, .unset, .unset] [(.ref w_B_MINUS), (.int (15 : Int32)), (.ref b1), (.ref b1)])) _
    refine st49 _ ?_
    show Steps p.tables e below (T49.setTop (mkF m 111 #[.val (.int p1), .val (.int p2), .unset, .unset, .unset, .unset] [(.ref b1)])) _
    refine XS.dup X49.here hx rfl (hb hby at_111) rfl rfl ?_
    show Steps p.tables e below (T49.setTop (mkF m 112 #[.val (.int p1), .val (.int p2), .unset, .unset, .unset, .unset] [(.ref b1), (.ref b1)])) _
    refine XS.bipush X49.here hx rfl (hb hby at_112) ?_
    show Steps p.tables e below (T49.setTop (mkF m 114 #[.val (.int p1), .val (.int p2), .unset, .unset, .unset, .unset] [(.int (16 : Int32)), (.ref b1), (.ref b1)])) _
    refine st50 _ ?_
    show Steps p.tables e below (T50.setTop (mkF m 117 #[.val (.int p1), .val (.int p2), .unset, .unset, .unset, .unset] [(.ref w_CCC_PLUS), (.int (16 : Int32)), (.ref b1), (.ref b1)])) _
    refine st52 _ ?_
    show Steps p.tables e below (T52.setTop (mkF m 118 #[.val (.int p1), .val (.int p2), .unset, .unset, .unset, .unset] [(.ref b1)])) _
    refine XS.dup X52.here hx rfl (hb hby at_118) rfl rfl ?_
    show Steps p.tables e below (T52.setTop (mkF m 119 #[.val (.int p1), .val (.int p2), .unset, .unset, .unset, .unset] [(.ref b1), (.ref b1)])) _
    refine XS.bipush X52.here hx rfl (hb hby at_119) ?_
    show Steps p.tables e below (T52.setTop (mkF m 121 #[.val (.int p1), .val (.int p2), .unset, .unset, .unset, .unset] [(.int (17 : Int32)), (.ref b1), (.ref b1)])) _
    refine st53 _ ?_
    show Steps p.tables e below (T53.setTop (mkF m 124 #[.val (.int p1), .val (.int p2), .unset, .unset, .unset, .unset] [(.ref w_CCC), (.int (17 : Int32)), (.ref b1), (.ref b1)])) _
    refine st55 _ ?_
    show Steps p.tables e below (T55.setTop (mkF m 125 #[.val (.int p1), .val (.int p2), .unset, .unset, .unset, .unset] [(.ref b1)])) _
    refine XS.dup X55.here hx rfl (hb hby at_125) rfl rfl ?_
    show Steps p.tables e below (T55.setTop (mkF m 126 #[.val (.int p1), .val (.int p2), .unset, .unset, .unset, .unset] [(.ref b1), (.ref b1)])) _
    refine XS.bipush X55.here hx rfl (hb hby at_126) ?_
    show Steps p.tables e below (T55.setTop (mkF m 128 #[.val (.int p1), .val (.int p2), .unset, .unset, .unset, .unset] [(.int (18 : Int32)), (.ref b1), (.ref b1)])) _
    refine st56 _ ?_
    show Steps p.tables e below (T56.setTop (mkF m 131 #[.val (.int p1), .val (.int p2), .unset, .unset, .unset, .unset] [(.ref w_CCC_MINUS), (.int (18 : Int32)), (.ref b1), (.ref b1)])) _
    refine st58 _ ?_
    show Steps p.tables e below (T58.setTop (mkF m 132 #[.val (.int p1), .val (.int p2), .unset, .unset, .unset, .unset] [(.ref b1)])) _
    refine XS.dup X58.here hx rfl (hb hby at_132) rfl rfl ?_
    show Steps p.tables e below (T58.setTop (mkF m 133 #[.val (.int p1), .val (.int p2), .unset, .unset, .unset, .unset] [(.ref b1), (.ref b1)])) _
    refine XS.bipush X58.here hx rfl (hb hby at_133) ?_
    show Steps p.tables e below (T58.setTop (mkF m 135 #[.val (.int p1), .val (.int p2), .unset, .unset, .unset, .unset] [(.int (19 : Int32)), (.ref b1), (.ref b1)])) _
    refine st59 _ ?_
    show Steps p.tables e below (T59.setTop (mkF m 138 #[.val (.int p1), .val (.int p2), .unset, .unset, .unset, .unset] [(.ref w_CC), (.int (19 : Int32)), (.ref b1), (.ref b1)])) _
    refine st61 _ ?_
    show Steps p.tables e below (T61.setTop (mkF m 139 #[.val (.int p1), .val (.int p2), .unset, .unset, .unset, .unset] [(.ref b1)])) _
    refine XS.dup X61.here hx rfl (hb hby at_139) rfl rfl ?_
    show Steps p.tables e below (T61.setTop (mkF m 140 #[.val (.int p1), .val (.int p2), .unset, .unset, .unset, .unset] [(.ref b1), (.ref b1)])) _
    refine XS.bipush X61.here hx rfl (hb hby at_140) ?_
    show Steps p.tables e below (T61.setTop (mkF m 142 #[.val (.int p1), .val (.int p2), .unset, .unset, .unset, .unset] [(.int (20 : Int32)), (.ref b1), (.ref b1)])) _
    refine st62 _ ?_
    show Steps p.tables e below (T62.setTop (mkF m 145 #[.val (.int p1), .val (.int p2), .unset, .unset, .unset, .unset] [(.ref w_C), (.int (20 : Int32)), (.ref b1), (.ref b1)])) _
    refine st64 _ ?_
    show Steps p.tables e below (T64.setTop (mkF m 146 #[.val (.int p1), .val (.int p2), .unset, .unset, .unset, .unset] [(.ref b1)])) _
    refine XS.astoreN X64.here hx rfl (hb hby at_146) rfl rfl (l' := #[.val (.int p1), .val (.int p2), .val (.ref b1), .unset, .unset, .unset]) rfl ?_
    show Steps p.tables e below (T64.setTop (mkF m 147 #[.val (.int p1), .val (.int p2), .val (.ref b1), .unset, .unset, .unset] [])) _
    refine XS.iloadN X64.here hx rfl (hb hby at_147) rfl ?_
    show Steps p.tables e below (T64.setTop (mkF m 148 #[.val (.int p1), .val (.int p2), .val (.ref b1), .unset, .unset, .unset] [(.int p1)])) _
    refine X64.ldcInt hx hown (mvT hZ (wd46 hw)) (g := (mkF m 148 #[.val (.int p1), .val (.int p2), .val (.ref b1), .unset, .unset, .unset] [(.int p1)])) rfl (hb hby at_148) _ ?_
    show Steps p.tables e below (T64.setTop (mkF m 150 #[.val (.int p1), .val (.int p2), .val (.ref b1), .unset, .unset, .unset] [(.int (2147483647 : Int32)), (.int p1)])) _
    refine XS.iand X64.here hx rfl (hb hby at_150) rfl ?_
    show Steps p.tables e below (T64.setTop (mkF m 151 #[.val (.int p1), .val (.int p2), .val (.ref b1), .unset, .unset, .unset] [(.int (p1 &&& (2147483647 : Int32)))])) _
    refine XS.bipush X64.here hx rfl (hb hby at_151) ?_
    show Steps p.tables e below (T64.setTop (mkF m 153 #[.val (.int p1), .val (.int p2), .val (.ref b1), .unset, .unset, .unset] [(.int (21 : Int32)), (.int (p1 &&& (2147483647 : Int32)))])) _
    refine iremM X64 hx rfl (hb hby at_153) rfl (by decide) ?_
    show Steps p.tables e below (T64.setTop (mkF m 154 #[.val (.int p1), .val (.int p2), .val (.ref b1), .unset, .unset, .unset] [(.int ((p1 &&& (2147483647 : Int32)) % (21 : Int32)))])) _
    refine XS.istoreN X64.here hx rfl (hb hby at_154) rfl (l' := #[.val (.int p1), .val (.int p2), .val (.ref b1), .val (.int ((p1 &&& (2147483647 : Int32)) % (21 : Int32))), .unset, .unset]) rfl ?_
    show Steps p.tables e below (T64.setTop (mkF m 155 #[.val (.int p1), .val (.int p2), .val (.ref b1), .val (.int ((p1 &&& (2147483647 : Int32)) % (21 : Int32))), .unset, .unset] [])) _
    refine XS.iloadN X64.here hx rfl (hb hby at_155) rfl ?_
    show Steps p.tables e below (T64.setTop (mkF m 156 #[.val (.int p1), .val (.int p2), .val (.ref b1), .val (.int ((p1 &&& (2147483647 : Int32)) % (21 : Int32))), .unset, .unset] [(.int p2)])) _
    refine X64.ldcInt hx hown (mvT hZ (wd46 hw)) (g := (mkF m 156 #[.val (.int p1), .val (.int p2), .val (.ref b1), .val (.int ((p1 &&& (2147483647 : Int32)) % (21 : Int32))), .unset, .unset] [(.int p2)])) rfl (hb hby at_156) _ ?_
    show Steps p.tables e below (T64.setTop (mkF m 158 #[.val (.int p1), .val (.int p2), .val (.ref b1), .val (.int ((p1 &&& (2147483647 : Int32)) % (21 : Int32))), .unset, .unset] [(.int (2147483647 : Int32)), (.int p2)])) _
    refine XS.iand X64.here hx rfl (hb hby at_158) rfl ?_
    show Steps p.tables e below (T64.setTop (mkF m 159 #[.val (.int p1), .val (.int p2), .val (.ref b1), .val (.int ((p1 &&& (2147483647 : Int32)) % (21 : Int32))), .unset, .unset] [(.int (p2 &&& (2147483647 : Int32)))])) _
    refine XS.bipush X64.here hx rfl (hb hby at_159) ?_
    show Steps p.tables e below (T64.setTop (mkF m 161 #[.val (.int p1), .val (.int p2), .val (.ref b1), .val (.int ((p1 &&& (2147483647 : Int32)) % (21 : Int32))), .unset, .unset] [(.int (21 : Int32)), (.int (p2 &&& (2147483647 : Int32)))])) _
    refine iremM X64 hx rfl (hb hby at_161) rfl (by decide) ?_
    show Steps p.tables e below (T64.setTop (mkF m 162 #[.val (.int p1), .val (.int p2), .val (.ref b1), .val (.int ((p1 &&& (2147483647 : Int32)) % (21 : Int32))), .unset, .unset] [(.int ((p2 &&& (2147483647 : Int32)) % (21 : Int32)))])) _
    refine XS.istore X64.here hx rfl (hb hby at_162) rfl (l' := #[.val (.int p1), .val (.int p2), .val (.ref b1), .val (.int ((p1 &&& (2147483647 : Int32)) % (21 : Int32))), .val (.int ((p2 &&& (2147483647 : Int32)) % (21 : Int32))), .unset]) rfl ?_
    show Steps p.tables e below (T64.setTop (mkF m 164 #[.val (.int p1), .val (.int p2), .val (.ref b1), .val (.int ((p1 &&& (2147483647 : Int32)) % (21 : Int32))), .val (.int ((p2 &&& (2147483647 : Int32)) % (21 : Int32))), .unset] [])) _
    refine XS.iloadN X64.here hx rfl (hb hby at_164) rfl ?_
    show Steps p.tables e below (T64.setTop (mkF m 165 #[.val (.int p1), .val (.int p2), .val (.ref b1), .val (.int ((p1 &&& (2147483647 : Int32)) % (21 : Int32))), .val (.int ((p2 &&& (2147483647 : Int32)) % (21 : Int32))), .unset] [(.int ((p1 &&& (2147483647 : Int32)) % (21 : Int32)))])) _
    refine XS.iload X64.here hx rfl (hb hby at_165) rfl ?_
    show Steps p.tables e below (T64.setTop (mkF m 167 #[.val (.int p1), .val (.int p2), .val (.ref b1), .val (.int ((p1 &&& (2147483647 : Int32)) % (21 : Int32))), .val (.int ((p2 &&& (2147483647 : Int32)) % (21 : Int32))), .unset] [(.int ((p2 &&& (2147483647 : Int32)) % (21 : Int32))), (.int ((p1 &&& (2147483647 : Int32)) % (21 : Int32)))])) _
    refine XS.icmpNo X64.here hx rfl (hb hby at_167) rfl (flt pr43).2.2.1 ?_
    show Steps p.tables e below (T64.setTop (mkF m 170 #[.val (.int p1), .val (.int p2), .val (.ref b1), .val (.int ((p1 &&& (2147483647 : Int32)) % (21 : Int32))), .val (.int ((p2 &&& (2147483647 : Int32)) % (21 : Int32))), .unset] [])) _
    refine XS.iconst X64.here hx rfl (hb hby at_170) ?_
    show Steps p.tables e below (T64.setTop (mkF m 171 #[.val (.int p1), .val (.int p2), .val (.ref b1), .val (.int ((p1 &&& (2147483647 : Int32)) % (21 : Int32))), .val (.int ((p2 &&& (2147483647 : Int32)) % (21 : Int32))), .unset] [(.int (1 : Int32))])) _
    refine XS.goto X64.here hx rfl (pc0 := 171) (pc' := 175) rfl (hb hby at_171) (by decide) (by decide) ?_
    show Steps p.tables e below (T64.setTop (mkF m 175 #[.val (.int p1), .val (.int p2), .val (.ref b1), .val (.int ((p1 &&& (2147483647 : Int32)) % (21 : Int32))), .val (.int ((p2 &&& (2147483647 : Int32)) % (21 : Int32))), .unset] [(.int (1 : Int32))])) _
    refine XS.istore X64.here hx rfl (hb hby at_175) rfl (l' := #[.val (.int p1), .val (.int p2), .val (.ref b1), .val (.int ((p1 &&& (2147483647 : Int32)) % (21 : Int32))), .val (.int ((p2 &&& (2147483647 : Int32)) % (21 : Int32))), .val (.int (1 : Int32))]) rfl ?_
    show Steps p.tables e below (T64.setTop (mkF m 177 #[.val (.int p1), .val (.int p2), .val (.ref b1), .val (.int ((p1 &&& (2147483647 : Int32)) % (21 : Int32))), .val (.int ((p2 &&& (2147483647 : Int32)) % (21 : Int32))), .val (.int (1 : Int32))] [])) _
    refine XS.aloadN X64.here hx rfl (hb hby at_177) rfl rfl ?_
    show Steps p.tables e below (T64.setTop (mkF m 178 #[.val (.int p1), .val (.int p2), .val (.ref b1), .val (.int ((p1 &&& (2147483647 : Int32)) % (21 : Int32))), .val (.int ((p2 &&& (2147483647 : Int32)) % (21 : Int32))), .val (.int (1 : Int32))] [(.ref b1)])) _
    refine XS.iloadN X64.here hx rfl (hb hby at_178) rfl ?_
    show Steps p.tables e below (T64.setTop (mkF m 179 #[.val (.int p1), .val (.int p2), .val (.ref b1), .val (.int ((p1 &&& (2147483647 : Int32)) % (21 : Int32))), .val (.int ((p2 &&& (2147483647 : Int32)) % (21 : Int32))), .val (.int (1 : Int32))] [(.int ((p1 &&& (2147483647 : Int32)) % (21 : Int32))), (.ref b1)])) _
    refine X64.aaload hx (j := ((p1 &&& (2147483647 : Int32)) % (21 : Int32))) (v := (.ref v1)) (by rw [e64]; exact Ar65.1) (State.isArrayOf_alike hZ.alike Ar65.2.1) rfl Ar65.2.2 hin65 hat65 (g := (mkF m 179 #[.val (.int p1), .val (.int p2), .val (.ref b1), .val (.int ((p1 &&& (2147483647 : Int32)) % (21 : Int32))), .val (.int ((p2 &&& (2147483647 : Int32)) % (21 : Int32))), .val (.int (1 : Int32))] [(.int ((p1 &&& (2147483647 : Int32)) % (21 : Int32))), (.ref b1)])) rfl rfl (hb hby at_179) _ ?_
    show Steps p.tables e below (T64.setTop (mkF m 180 #[.val (.int p1), .val (.int p2), .val (.ref b1), .val (.int ((p1 &&& (2147483647 : Int32)) % (21 : Int32))), .val (.int ((p2 &&& (2147483647 : Int32)) % (21 : Int32))), .val (.int (1 : Int32))] [(.ref v1)])) _
    refine XS.aloadN X64.here hx rfl (hb hby at_180) rfl rfl ?_
    show Steps p.tables e below (T64.setTop (mkF m 181 #[.val (.int p1), .val (.int p2), .val (.ref b1), .val (.int ((p1 &&& (2147483647 : Int32)) % (21 : Int32))), .val (.int ((p2 &&& (2147483647 : Int32)) % (21 : Int32))), .val (.int (1 : Int32))] [(.ref b1), (.ref v1)])) _
    refine XS.iload X64.here hx rfl (hb hby at_181) rfl ?_
    show Steps p.tables e below (T64.setTop (mkF m 183 #[.val (.int p1), .val (.int p2), .val (.ref b1), .val (.int ((p1 &&& (2147483647 : Int32)) % (21 : Int32))), .val (.int ((p2 &&& (2147483647 : Int32)) % (21 : Int32))), .val (.int (1 : Int32))] [(.int ((p2 &&& (2147483647 : Int32)) % (21 : Int32))), (.ref b1), (.ref v1)])) _
    refine X64.aaload hx (j := ((p2 &&& (2147483647 : Int32)) % (21 : Int32))) (v := (.ref v2)) (by rw [e64]; exact Ar66.1) (State.isArrayOf_alike hZ.alike Ar66.2.1) rfl Ar66.2.2 hin66 hat66 (g := (mkF m 183 #[.val (.int p1), .val (.int p2), .val (.ref b1), .val (.int ((p1 &&& (2147483647 : Int32)) % (21 : Int32))), .val (.int ((p2 &&& (2147483647 : Int32)) % (21 : Int32))), .val (.int (1 : Int32))] [(.int ((p2 &&& (2147483647 : Int32)) % (21 : Int32))), (.ref b1), (.ref v1)])) rfl rfl (hb hby at_183) _ ?_
    show Steps p.tables e below (T64.setTop (mkF m 184 #[.val (.int p1), .val (.int p2), .val (.ref b1), .val (.int ((p1 &&& (2147483647 : Int32)) % (21 : Int32))), .val (.int ((p2 &&& (2147483647 : Int32)) % (21 : Int32))), .val (.int (1 : Int32))] [(.ref v2), (.ref v1)])) _
    refine st67.trans ?_
    show Steps p.tables e below (T67.setTop (mkF m 187 #[.val (.int p1), .val (.int p2), .val (.ref b1), .val (.int ((p1 &&& (2147483647 : Int32)) % (21 : Int32))), .val (.int ((p2 &&& (2147483647 : Int32)) % (21 : Int32))), .val (.int (1 : Int32))] [(.int (1 : Int32))])) _
    refine XS.iload X67.here hx rfl (hb hby at_187) rfl ?_
    show Steps p.tables e below (T67.setTop (mkF m 189 #[.val (.int p1), .val (.int p2), .val (.ref b1), .val (.int ((p1 &&& (2147483647 : Int32)) % (21 : Int32))), .val (.int ((p2 &&& (2147483647 : Int32)) % (21 : Int32))), .val (.int (1 : Int32))] [(.int (1 : Int32)), (.int (1 : Int32))])) _
    refine XS.icmpNo X67.here hx rfl (hb hby at_189) rfl (teq (rfl : (1 : Int32) = (1 : Int32))).2 ?_
    show Steps p.tables e below (T67.setTop (mkF m 192 #[.val (.int p1), .val (.int p2), .val (.ref b1), .val (.int ((p1 &&& (2147483647 : Int32)) % (21 : Int32))), .val (.int ((p2 &&& (2147483647 : Int32)) % (21 : Int32))), .val (.int (1 : Int32))] [])) _
    refine XS.iconst X67.here hx rfl (hb hby at_192) ?_
    show Steps p.tables e below (T67.setTop (mkF m 193 #[.val (.int p1), .val (.int p2), .val (.ref b1), .val (.int ((p1 &&& (2147483647 : Int32)) % (21 : Int32))), .val (.int ((p2 &&& (2147483647 : Int32)) % (21 : Int32))), .val (.int (1 : Int32))] [(.int (1 : Int32))])) _
    refine XS.goto X67.here hx rfl (pc0 := 193) (pc' := 197) rfl (hb hby at_193) (by decide) (by decide) ?_
    show Steps p.tables e below (T67.setTop (mkF m 197 #[.val (.int p1), .val (.int p2), .val (.ref b1), .val (.int ((p1 &&& (2147483647 : Int32)) % (21 : Int32))), .val (.int ((p2 &&& (2147483647 : Int32)) % (21 : Int32))), .val (.int (1 : Int32))] [(.int (1 : Int32))])) _
    exact retN X67 hx (t := .boolean) Bd.returns (by simp) (hb hby at_197) hr
  · exact ⟨rfl, N67⟩
theorem d1_15 : decode prog_47_method_5_code 15 = .ok (.iconst 0, 1) := by decide +kernel
def Q_rm1_1 (Z : State) (w1 : Addr) (w2 : Addr) (p3 : Int32) (p5 : Int32) (h0 : Heap) (n0 : Nat) (v : Option Value) (h : Heap) (L : List Loc) : Prop := v = some (.int (0 : Int32)) ∧ Fr n0 L ∧ h = h0
set_option maxRecDepth 65536 in
set_option maxHeartbeats 40000000 in
theorem rm1_1 (l : Launch) (Z : State) (a0 : Array Value) (hw : ∀ d ∈ tables_1, d.before a0 Z = true) (ws : List Jvm.Cond) (w1 : Addr) (w2 : Addr) (p3 : Int32) (p5 : Int32) (h0 : Heap) (n0 : Nat) (OL0 : Old Z n0 h0) (pr1 : Fld Z Z.heap w1 "java/lang/Enum" "ordinal" "I" (.int p3)) (pr2 : Exa Z Z.heap w1 "com/example/facility_atlas/facilityatlas/Rating") (pr3 : Fld Z Z.heap w2 "java/lang/Enum" "ordinal" "I" (.int p5)) (pr4 : Exa Z Z.heap w2 "com/example/facility_atlas/facilityatlas/Rating") (pr5 : p5 < p3) :
    MetFree l (⟨"com/example/facility_atlas/facilityatlas/Rating", "isAtOrAbove", "(Lcom/example/facility_atlas/facilityatlas/Rating;)Z"⟩ : MethodName) (head1 (Jvm.Cond.code (⟨"com/example/facility_atlas/facilityatlas/Rating", "isAtOrAbove", "(Lcom/example/facility_atlas/facilityatlas/Rating;)Z"⟩ : MethodName) prog_47_method_5_code 2 (some .boolean) :: ws) ({ frames := 1, cells := 0, slots := 0, locals := 13 } : Room)) (fun a U => a = #[(.ref w1), (.ref w2)] ∧ Z.Warmed39 U.vm ∧ U.heap = h0) (fun _ _ _ _ _ => True) (fun _ U o U' => ∃ v L, o = .returned v ∧ Q_rm1_1 Z w1 w2 p3 p5 h0 n0 v U'.heap L ∧ FrameEnd U o U' L ({ frames := 1, cells := 0, slots := 0, locals := 13 } : Room).cells ({ frames := 1, cells := 0, slots := 0, locals := 13 } : Room).slots) := by
  refine MetFree.of_bodySF (plainFor_of_name pn_1) hisR ?_
  intro p e s m args below meth c s₁ Bd hml0 hP hK
  obtain ⟨rfl, hZ, hh⟩ := hP
  have hx := Bd.exec
  have hby := Bd.bytes
  have hml : c.maxLocals = 2 := hml0
  have hown : s.vm.findClass "com/example/facility_atlas/facilityatlas/Rating" = some m.cls := findClass_of_methodNamed Bd.named
  have hnm := (name_of_methodNamed Bd.named Bd.method).1
  have X0 : Stand p l e ({ frames := 1, cells := 0, slots := 0, locals := 13 } : Room) s m #[(.ref w1), (.ref w2)] below meth c s₁ [] 0 0 := Stand.of_body Bd
  have e0 : s₁.heap = h0 := by rw [← hh, Bd.state]; rfl
  have N0 := Fr.nil n0
  have pre0 : ∀ t, Steps p.tables e below (s₁.setTop (mkF m 0 #[.val (.ref w1), .val (.ref w2)] [])) t → Steps p.tables e below (s₁.setTop (entryFrame m #[(.ref w1), (.ref w2)] 2)) t := fun t k => castTop (ef_1_1 m w1 w2) k
  obtain ⟨cq4, kq4, q4a, q4b, q4c⟩ := isOf hZ e0 (pr2.ext OL0.2)
  obtain ⟨_, _, ⟨T4, L4, k4, n4⟩, -, X4, ⟨Lc4, hQ4, l4, y4, z4⟩, st4⟩ := X0.virtualBackUp hx (owner := "java/lang/Enum") (x := (⟨"com/example/facility_atlas/facilityatlas/Rating", "ordinal", "()I"⟩ : MethodName)) (y := (⟨"java/lang/Enum", "ordinal", "()I"⟩ : MethodName)) hown (mvT hZ (wd52 hw)) (mvT hZ (wd53 hw)) (mvT hZ (wd54 hw)) (by decide) (mvT hZ (wd56 hw)) (mvT hZ (wd55 hw)) (backOf (W := 0) (rm2_0 l Z a0 hw [] w1 p3 h0 n0 OL0 pr1) hZ (wd58 hw) (wd57 hw) (by decide) (by decide)) q4a q4c (g := (mkF m 1 #[.val (.ref w1), .val (.ref w2)] [(.ref w1)])) rfl (by rw [hml]; rfl) (Steps.refl _) (argsL := []) (rest := []) (lenOf pd_0 rfl) rfl (by show 2 * 0 + _ ≤ _; exact Nat.le_of_eq rfl) (hb hby d1_1) (fun _ _ => ⟨rfl, e0, (by decide : 0 + 0 ≤ _), (by decide : 0 + 0 ≤ _)⟩)
  dsimp only [Pt.U, Pt.locs, Pt.cells, Pt.slots] at X4 l4 y4 z4 st4 hQ4
  subst l4 y4 z4
  obtain ⟨rfl, Nq4, ec4⟩ := hQ4
  have N4 := Fr.app N0 Nq4
  obtain ⟨cq6, kq6, q6a, q6b, q6c⟩ := isOf hZ ec4 (pr4.ext OL0.2)
  obtain ⟨_, _, ⟨T6, L6, k6, n6⟩, -, X6, ⟨Lc6, hQ6, l6, y6, z6⟩, st6⟩ := X4.virtualBackUp hx (owner := "java/lang/Enum") (x := (⟨"com/example/facility_atlas/facilityatlas/Rating", "ordinal", "()I"⟩ : MethodName)) (y := (⟨"java/lang/Enum", "ordinal", "()I"⟩ : MethodName)) hown (mvT hZ (wd52 hw)) (mvT hZ (wd53 hw)) (mvT hZ (wd54 hw)) (by decide) (mvT hZ (wd56 hw)) (mvT hZ (wd55 hw)) (backOf (W := 1) (rm2_0 l Z a0 hw [] w2 p5 h0 n0 OL0 pr3) hZ (wd58 hw) (wd57 hw) (by decide) (by decide)) q6a q6c (g := (mkF m 5 #[.val (.ref w1), .val (.ref w2)] [(.ref w2), (.int p3)])) rfl (by rw [hml]; rfl) (Steps.refl _) (argsL := []) (rest := [(.int p3)]) (lenOf pd_0 rfl) rfl (by show 2 * 0 + _ ≤ _; exact Nat.le_of_eq rfl) (hb hby d1_5) (fun _ _ => ⟨rfl, ec4, (by decide : 0 + 0 ≤ _), (by decide : 0 + 0 ≤ _)⟩)
  dsimp only [Pt.U, Pt.locs, Pt.cells, Pt.slots] at X6 l6 y6 z6 st6 hQ6
  subst l6 y6 z6
  obtain ⟨rfl, Nq6, ec6⟩ := hQ6
  have N6 := Fr.app N4 Nq6
  obtain ⟨fs, hr, hrun, hended, hW, hsame⟩ := X6.leave (v := some (.int (0 : Int32))) (fun h => by rw [Bd.returns] at h; cases h)
  refine ⟨_, _, pre0 _ ?_, hrun, hended, _, _, rfl, ?_, ⟨_, rfl⟩, hW, hsame.mono (by decide) (by decide)⟩
  · show Steps p.tables e below (s₁.setTop (mkF m 0 #[.val (.ref w1), .val (.ref w2)] [])) _
    refine XS.aloadN X0.here hx rfl (hb hby d1_0) rfl rfl ?_
    show Steps p.tables e below (s₁.setTop (mkF m 1 #[.val (.ref w1), .val (.ref w2)] [(.ref w1)])) _
    refine st4.trans ?_
    show Steps p.tables e below (T4.setTop (mkF m 4 #[.val (.ref w1), .val (.ref w2)] [(.int p3)])) _
    refine XS.aloadN X4.here hx rfl (hb hby d1_4) rfl rfl ?_
    show Steps p.tables e below (T4.setTop (mkF m 5 #[.val (.ref w1), .val (.ref w2)] [(.ref w2), (.int p3)])) _
    refine st6.trans ?_
    show Steps p.tables e below (T6.setTop (mkF m 8 #[.val (.ref w1), .val (.ref w2)] [(.int p5), (.int p3)])) _
    refine XS.icmpYes X6.here hx rfl (pc0 := 8) (pc' := 15) rfl (hb hby d1_8) rfl (tlt pr5).2.2.1 (by decide) (by decide) ?_
    show Steps p.tables e below (T6.setTop (mkF m 15 #[.val (.ref w1), .val (.ref w2)] [])) _
    refine XS.iconst X6.here hx rfl (hb hby d1_15) ?_
    show Steps p.tables e below (T6.setTop (mkF m 16 #[.val (.ref w1), .val (.ref w2)] [(.int (0 : Int32))])) _
    exact retN X6 hx (t := .boolean) Bd.returns (by simp) (hb hby d1_16) hr
  · show Q_rm1_1 Z w1 w2 p3 p5 h0 n0 _ T6.heap _
    rw [ec6]
    exact ⟨rfl, N6, rfl⟩
set_option maxRecDepth 65536 in
set_option maxHeartbeats 40000000 in
theorem rm0_ge (l : Launch) (Z : State) (a0 : Array Value) (hw : ∀ d ∈ tables_1, d.before a0 Z = true) (ws : List Jvm.Cond) (p1 : Int32) (p2 : Int32) (w_AAA : Addr) (w_AA_PLUS : Addr) (w_AA : Addr) (w_AA_MINUS : Addr) (w_A_PLUS : Addr) (w_A : Addr) (w_A_MINUS : Addr) (w_BBB_PLUS : Addr) (w_BBB : Addr) (w_BBB_MINUS : Addr) (w_BB_PLUS : Addr) (w_BB : Addr) (w_BB_MINUS : Addr) (w_B_PLUS : Addr) (w_B : Addr) (w_B_MINUS : Addr) (w_CCC_PLUS : Addr) (w_CCC : Addr) (w_CCC_MINUS : Addr) (w_CC : Addr) (w_C : Addr) (v1 : Addr) (v2 : Addr) (h0 : Heap) (n0 : Nat) (OL0 : Old Z n0 h0) (pr1 : Sta Z Z.heap "com/example/facility_atlas/facilityatlas/Rating" "AAA" "Lcom/example/facility_atlas/facilityatlas/Rating;" (.ref w_AAA)) (pr2 : Exa Z Z.heap w_AAA "com/example/facility_atlas/facilityatlas/Rating") (pr3 : Sta Z Z.heap "com/example/facility_atlas/facilityatlas/Rating" "AA_PLUS" "Lcom/example/facility_atlas/facilityatlas/Rating;" (.ref w_AA_PLUS)) (pr4 : Exa Z Z.heap w_AA_PLUS "com/example/facility_atlas/facilityatlas/Rating") (pr5 : Sta Z Z.heap "com/example/facility_atlas/facilityatlas/Rating" "AA" "Lcom/example/facility_atlas/facilityatlas/Rating;" (.ref w_AA)) (pr6 : Exa Z Z.heap w_AA "com/example/facility_atlas/facilityatlas/Rating") (pr7 : Sta Z Z.heap "com/example/facility_atlas/facilityatlas/Rating" "AA_MINUS" "Lcom/example/facility_atlas/facilityatlas/Rating;" (.ref w_AA_MINUS)) (pr8 : Exa Z Z.heap w_AA_MINUS "com/example/facility_atlas/facilityatlas/Rating") (pr9 : Sta Z Z.heap "com/example/facility_atlas/facilityatlas/Rating" "A_PLUS" "Lcom/example/facility_atlas/facilityatlas/Rating;" (.ref w_A_PLUS)) (pr10 : Exa Z Z.heap w_A_PLUS "com/example/facility_atlas/facilityatlas/Rating") (pr11 : Sta Z Z.heap "com/example/facility_atlas/facilityatlas/Rating" "A" "Lcom/example/facility_atlas/facilityatlas/Rating;" (.ref w_A)) (pr12 : Exa Z Z.heap w_A "com/example/facility_atlas/facilityatlas/Rating") (pr13 : Sta Z Z.heap "com/example/facility_atlas/facilityatlas/Rating" "A_MINUS" "Lcom/example/facility_atlas/facilityatlas/Rating;" (.ref w_A_MINUS)) (pr14 : Exa Z Z.heap w_A_MINUS "com/example/facility_atlas/facilityatlas/Rating") (pr15 : Sta Z Z.heap "com/example/facility_atlas/facilityatlas/Rating" "BBB_PLUS" "Lcom/example/facility_atlas/facilityatlas/Rating;" (.ref w_BBB_PLUS)) (pr16 : Exa Z Z.heap w_BBB_PLUS "com/example/facility_atlas/facilityatlas/Rating") (pr17 : Sta Z Z.heap "com/example/facility_atlas/facilityatlas/Rating" "BBB" "Lcom/example/facility_atlas/facilityatlas/Rating;" (.ref w_BBB)) (pr18 : Exa Z Z.heap w_BBB "com/example/facility_atlas/facilityatlas/Rating") (pr19 : Sta Z Z.heap "com/example/facility_atlas/facilityatlas/Rating" "BBB_MINUS" "Lcom/example/facility_atlas/facilityatlas/Rating;" (.ref w_BBB_MINUS)) (pr20 : Exa Z Z.heap w_BBB_MINUS "com/example/facility_atlas/facilityatlas/Rating") (pr21 : Sta Z Z.heap "com/example/facility_atlas/facilityatlas/Rating" "BB_PLUS" "Lcom/example/facility_atlas/facilityatlas/Rating;" (.ref w_BB_PLUS)) (pr22 : Exa Z Z.heap w_BB_PLUS "com/example/facility_atlas/facilityatlas/Rating") (pr23 : Sta Z Z.heap "com/example/facility_atlas/facilityatlas/Rating" "BB" "Lcom/example/facility_atlas/facilityatlas/Rating;" (.ref w_BB)) (pr24 : Exa Z Z.heap w_BB "com/example/facility_atlas/facilityatlas/Rating") (pr25 : Sta Z Z.heap "com/example/facility_atlas/facilityatlas/Rating" "BB_MINUS" "Lcom/example/facility_atlas/facilityatlas/Rating;" (.ref w_BB_MINUS)) (pr26 : Exa Z Z.heap w_BB_MINUS "com/example/facility_atlas/facilityatlas/Rating") (pr27 : Sta Z Z.heap "com/example/facility_atlas/facilityatlas/Rating" "B_PLUS" "Lcom/example/facility_atlas/facilityatlas/Rating;" (.ref w_B_PLUS)) (pr28 : Exa Z Z.heap w_B_PLUS "com/example/facility_atlas/facilityatlas/Rating") (pr29 : Sta Z Z.heap "com/example/facility_atlas/facilityatlas/Rating" "B" "Lcom/example/facility_atlas/facilityatlas/Rating;" (.ref w_B)) (pr30 : Exa Z Z.heap w_B "com/example/facility_atlas/facilityatlas/Rating") (pr31 : Sta Z Z.heap "com/example/facility_atlas/facilityatlas/Rating" "B_MINUS" "Lcom/example/facility_atlas/facilityatlas/Rating;" (.ref w_B_MINUS)) (pr32 : Exa Z Z.heap w_B_MINUS "com/example/facility_atlas/facilityatlas/Rating") (pr33 : Sta Z Z.heap "com/example/facility_atlas/facilityatlas/Rating" "CCC_PLUS" "Lcom/example/facility_atlas/facilityatlas/Rating;" (.ref w_CCC_PLUS)) (pr34 : Exa Z Z.heap w_CCC_PLUS "com/example/facility_atlas/facilityatlas/Rating") (pr35 : Sta Z Z.heap "com/example/facility_atlas/facilityatlas/Rating" "CCC" "Lcom/example/facility_atlas/facilityatlas/Rating;" (.ref w_CCC)) (pr36 : Exa Z Z.heap w_CCC "com/example/facility_atlas/facilityatlas/Rating") (pr37 : Sta Z Z.heap "com/example/facility_atlas/facilityatlas/Rating" "CCC_MINUS" "Lcom/example/facility_atlas/facilityatlas/Rating;" (.ref w_CCC_MINUS)) (pr38 : Exa Z Z.heap w_CCC_MINUS "com/example/facility_atlas/facilityatlas/Rating") (pr39 : Sta Z Z.heap "com/example/facility_atlas/facilityatlas/Rating" "CC" "Lcom/example/facility_atlas/facilityatlas/Rating;" (.ref w_CC)) (pr40 : Exa Z Z.heap w_CC "com/example/facility_atlas/facilityatlas/Rating") (pr41 : Sta Z Z.heap "com/example/facility_atlas/facilityatlas/Rating" "C" "Lcom/example/facility_atlas/facilityatlas/Rating;" (.ref w_C)) (pr42 : Exa Z Z.heap w_C "com/example/facility_atlas/facilityatlas/Rating") (pr43 : ((p2 &&& (2147483647 : Int32)) % (21 : Int32)) < ((p1 &&& (2147483647 : Int32)) % (21 : Int32))) (pr44 : ¬ (((p1 &&& (2147483647 : Int32)) % (21 : Int32)) < (0 : Int32))) (pr45 : ((p1 &&& (2147483647 : Int32)) % (21 : Int32)) < (21 : Int32)) (pr46 : ([(.ref w_AAA), (.ref w_AA_PLUS), (.ref w_AA), (.ref w_AA_MINUS), (.ref w_A_PLUS), (.ref w_A), (.ref w_A_MINUS), (.ref w_BBB_PLUS), (.ref w_BBB), (.ref w_BBB_MINUS), (.ref w_BB_PLUS), (.ref w_BB), (.ref w_BB_MINUS), (.ref w_B_PLUS), (.ref w_B), (.ref w_B_MINUS), (.ref w_CCC_PLUS), (.ref w_CCC), (.ref w_CCC_MINUS), (.ref w_CC), (.ref w_C)] : List Value).getD (((p1 &&& (2147483647 : Int32)) % (21 : Int32))).toNatClampNeg .null = .ref v1) (pr47 : ¬ (((p2 &&& (2147483647 : Int32)) % (21 : Int32)) < (0 : Int32))) (pr48 : ((p2 &&& (2147483647 : Int32)) % (21 : Int32)) < (21 : Int32)) (pr49 : ([(.ref w_AAA), (.ref w_AA_PLUS), (.ref w_AA), (.ref w_AA_MINUS), (.ref w_A_PLUS), (.ref w_A), (.ref w_A_MINUS), (.ref w_BBB_PLUS), (.ref w_BBB), (.ref w_BBB_MINUS), (.ref w_BB_PLUS), (.ref w_BB), (.ref w_BB_MINUS), (.ref w_B_PLUS), (.ref w_B), (.ref w_B_MINUS), (.ref w_CCC_PLUS), (.ref w_CCC), (.ref w_CCC_MINUS), (.ref w_CC), (.ref w_C)] : List Value).getD (((p2 &&& (2147483647 : Int32)) % (21 : Int32))).toNatClampNeg .null = .ref v2) (pr50 : Fld Z Z.heap v1 "java/lang/Enum" "ordinal" "I" (.int ((p1 &&& (2147483647 : Int32)) % (21 : Int32)))) (pr51 : Exa Z Z.heap v1 "com/example/facility_atlas/facilityatlas/Rating") (pr52 : Fld Z Z.heap v2 "java/lang/Enum" "ordinal" "I" (.int ((p2 &&& (2147483647 : Int32)) % (21 : Int32)))) (pr53 : Exa Z Z.heap v2 "com/example/facility_atlas/facilityatlas/Rating") :
    MetFree l x (head1 (Jvm.Cond.code x code maxLocals ret :: ws) room_1) (fun a U => a = #[(.int p1), (.int p2)] ∧ Z.Warmed39 U.vm ∧ U.heap = h0) (fun _ _ _ _ _ => True) (fun _ U o U' => ∃ v L, o = .returned v ∧ Q0 n0 v L ∧ FrameEnd U o U' L 16 128) := by
  refine MetFree.of_bodySF (plainFor_of_name pn_2) hisR ?_
  intro p e s m args below meth c s₁ Bd hml0 hP hK
  obtain ⟨rfl, hZ, hh⟩ := hP
  have hx := Bd.exec
  have hby := Bd.bytes
  have hml : c.maxLocals = 6 := hml0
  have hown : s.vm.findClass "com/example/facility_atlas/facilityatlas/RatingIsAtOrAbovePinLaw" = some m.cls := findClass_of_methodNamed Bd.named
  have hnm := (name_of_methodNamed Bd.named Bd.method).1
  have X0 : Stand p l e room_1 s m #[(.int p1), (.int p2)] below meth c s₁ [] 0 0 := Stand.of_body Bd
  have e0 : s₁.heap = h0 := by rw [← hh, Bd.state]; rfl
  have N0 := Fr.nil n0
  have pre0 : ∀ t, Steps p.tables e below (s₁.setTop (mkF m 0 #[.val (.int p1), .val (.int p2), .unset, .unset, .unset, .unset] [])) t → Steps p.tables e below (s₁.setTop (entryFrame m #[(.int p1), (.int p2)] maxLocals)) t := fun t k => castTop (ef_0_2 m p1 p2) k
  obtain ⟨T1, h1, k1, X1, e1, E1, A1, O1, st1⟩ := newR X0 hx hZ hown (wd0 hw) (wd1 hw) e0 (g := (mkF m 2 #[.val (.int p1), .val (.int p2), .unset, .unset, .unset, .unset] [(.int (21 : Int32))])) rfl (hb hby at_2) rfl (by decide) (cap := 21) (by decide) (by decide) (by decide) (by decide)
  obtain ⟨b1, g1⟩ : ∃ z, z = h0.size := ⟨_, rfl⟩
  rw [← g1] at A1 st1
  have V1 : Arv Z h1 b1 k1 (.object "com/example/facility_atlas/facilityatlas/Rating") (21 : Int32) [.null, .null, .null, .null, .null, .null, .null, .null, .null, .null, .null, .null, .null, .null, .null, .null, .null, .null, .null, .null, .null] .null := (Arv.new A1 (by decide)).pad (pad_rep [] .null 21)
  have g_b1 : n0 ≤ b1 := (Nat.le_trans (Nat.le_trans (Nat.le_of_eq OL0.1.symm) OL0.2.1) (Nat.le_of_eq g1.symm))
  have sz_b1 : h0.size ≤ b1 := (Nat.le_trans (Keep.refl h0 []).1 (Nat.le_of_eq g1.symm))
  have KK1 : Keep h0 h1 [] := (Keep.refl h0 []).ext E1
  have OL1 := OL0.ext E1
  obtain ⟨T2, X2, e2, st2⟩ := getS2 X1 hx hZ hown (host := "") (Or.inl (wd2 hw)) Via.refl e1 (pr1.ext OL1.2) (g := (mkF m 7 #[.val (.int p1), .val (.int p2), .unset, .unset, .unset, .unset] [(.int (0 : Int32)), (.ref b1), (.ref b1)])) rfl (hb hby at_7)
  obtain ⟨cl3, Ar3, q3, S3, M3, Hs3, G3⟩ := id V1
  have hin3 : ¬ ((0 : Int32) < 0 ∨ cl3.slots.size ≤ ((0 : Int32)).toNatClampNeg) := inb_of S3 ⟨by decide, by decide⟩
  obtain ⟨T4, h4, X4, e4, W4, st4⟩ := stR X2 hx hZ e2 Ar3 (j := (0 : Int32)) hin3 rfl (Sto.ofV Ar3 q3 O1 (Ins.self (pr2.ext OL1.2))) (g := (mkF m 10 #[.val (.int p1), .val (.int p2), .unset, .unset, .unset, .unset] [(.ref w_AAA), (.int (0 : Int32)), (.ref b1), (.ref b1)])) rfl rfl (hb hby at_10)
  have V4 : Arv Z h4 b1 k1 (.object "com/example/facility_atlas/facilityatlas/Rating") (21 : Int32) [(.ref w_AAA), .null, .null, .null, .null, .null, .null, .null, .null, .null, .null, .null, .null, .null, .null, .null, .null, .null, .null, .null, .null] .null := Arv.set Ar3 q3 S3 M3 Hs3 G3 rfl W4 0 rfl (Nat.le_of_ble_eq_true rfl)
  have KK4 : Keep h0 h4 [] := KK1.wr W4 (Or.inr sz_b1)
  have OL4 := OL1.wr W4 g_b1
  have N4 := Fr.snoc X4 N0 g_b1
  obtain ⟨T5, X5, e5, st5⟩ := getS2 X4 hx hZ hown (host := "") (Or.inl (wd6 hw)) Via.refl e4 (pr3.ext OL4.2) (g := (mkF m 13 #[.val (.int p1), .val (.int p2), .unset, .unset, .unset, .unset] [(.int (1 : Int32)), (.ref b1), (.ref b1)])) rfl (hb hby at_13)
  obtain ⟨cl6, Ar6, q6, S6, M6, Hs6, G6⟩ := id V4
  have hin6 : ¬ ((1 : Int32) < 0 ∨ cl6.slots.size ≤ ((1 : Int32)).toNatClampNeg) := inb_of S6 ⟨by decide, by decide⟩
  obtain ⟨T7, h7, X7, e7, W7, st7⟩ := stR X5 hx hZ e5 Ar6 (j := (1 : Int32)) hin6 rfl (Sto.ofV Ar6 q6 O1 (Ins.self (pr4.ext OL4.2))) (g := (mkF m 16 #[.val (.int p1), .val (.int p2), .unset, .unset, .unset, .unset] [(.ref w_AA_PLUS), (.int (1 : Int32)), (.ref b1), (.ref b1)])) rfl rfl (hb hby at_16)
  have V7 : Arv Z h7 b1 k1 (.object "com/example/facility_atlas/facilityatlas/Rating") (21 : Int32) [(.ref w_AAA), (.ref w_AA_PLUS), .null, .null, .null, .null, .null, .null, .null, .null, .null, .null, .null, .null, .null, .null, .null, .null, .null, .null, .null] .null := Arv.set Ar6 q6 S6 M6 Hs6 G6 rfl W7 1 rfl (Nat.le_of_ble_eq_true rfl)
  have KK7 : Keep h0 h7 [] := KK4.wr W7 (Or.inr sz_b1)
  have OL7 := OL4.wr W7 g_b1
  have N7 := Fr.snoc X7 N4 g_b1
  obtain ⟨T8, X8, e8, st8⟩ := getS2 X7 hx hZ hown (host := "") (Or.inl (wd8 hw)) Via.refl e7 (pr5.ext OL7.2) (g := (mkF m 19 #[.val (.int p1), .val (.int p2), .unset, .unset, .unset, .unset] [(.int (2 : Int32)), (.ref b1), (.ref b1)])) rfl (hb hby at_19)
  obtain ⟨cl9, Ar9, q9, S9, M9, Hs9, G9⟩ := id V7
  have hin9 : ¬ ((2 : Int32) < 0 ∨ cl9.slots.size ≤ ((2 : Int32)).toNatClampNeg) := inb_of S9 ⟨by decide, by decide⟩
  obtain ⟨T10, h10, X10, e10, W10, st10⟩ := stR X8 hx hZ e8 Ar9 (j := (2 : Int32)) hin9 rfl (Sto.ofV Ar9 q9 O1 (Ins.self (pr6.ext OL7.2))) (g := (mkF m 22 #[.val (.int p1), .val (.int p2), .unset, .unset, .unset, .unset] [(.ref w_AA), (.int (2 : Int32)), (.ref b1), (.ref b1)])) rfl rfl (hb hby at_22)
  have V10 : Arv Z h10 b1 k1 (.object "com/example/facility_atlas/facilityatlas/Rating") (21 : Int32) [(.ref w_AAA), (.ref w_AA_PLUS), (.ref w_AA), .null, .null, .null, .null, .null, .null, .null, .null, .null, .null, .null, .null, .null, .null, .null, .null, .null, .null] .null := Arv.set Ar9 q9 S9 M9 Hs9 G9 rfl W10 2 rfl (Nat.le_of_ble_eq_true rfl)
  have KK10 : Keep h0 h10 [] := KK7.wr W10 (Or.inr sz_b1)
  have OL10 := OL7.wr W10 g_b1
  have N10 := Fr.snoc X10 N7 g_b1
  obtain ⟨T11, X11, e11, st11⟩ := getS2 X10 hx hZ hown (host := "") (Or.inl (wd10 hw)) Via.refl e10 (pr7.ext OL10.2) (g := (mkF m 25 #[.val (.int p1), .val (.int p2), .unset, .unset, .unset, .unset] [(.int (3 : Int32)), (.ref b1), (.ref b1)])) rfl (hb hby at_25)
  obtain ⟨cl12, Ar12, q12, S12, M12, Hs12, G12⟩ := id V10
  have hin12 : ¬ ((3 : Int32) < 0 ∨ cl12.slots.size ≤ ((3 : Int32)).toNatClampNeg) := inb_of S12 ⟨by decide, by decide⟩
  obtain ⟨T13, h13, X13, e13, W13, st13⟩ := stR X11 hx hZ e11 Ar12 (j := (3 : Int32)) hin12 rfl (Sto.ofV Ar12 q12 O1 (Ins.self (pr8.ext OL10.2))) (g := (mkF m 28 #[.val (.int p1), .val (.int p2), .unset, .unset, .unset, .unset] [(.ref w_AA_MINUS), (.int (3 : Int32)), (.ref b1), (.ref b1)])) rfl rfl (hb hby at_28)
  have V13 : Arv Z h13 b1 k1 (.object "com/example/facility_atlas/facilityatlas/Rating") (21 : Int32) [(.ref w_AAA), (.ref w_AA_PLUS), (.ref w_AA), (.ref w_AA_MINUS), .null, .null, .null, .null, .null, .null, .null, .null, .null, .null, .null, .null, .null, .null, .null, .null, .null] .null := Arv.set Ar12 q12 S12 M12 Hs12 G12 rfl W13 3 rfl (Nat.le_of_ble_eq_true rfl)
  have KK13 : Keep h0 h13 [] := KK10.wr W13 (Or.inr sz_b1)
  have OL13 := OL10.wr W13 g_b1
  have N13 := Fr.snoc X13 N10 g_b1
  obtain ⟨T14, X14, e14, st14⟩ := getS2 X13 hx hZ hown (host := "") (Or.inl (wd12 hw)) Via.refl e13 (pr9.ext OL13.2) (g := (mkF m 31 #[.val (.int p1), .val (.int p2), .unset, .unset, .unset, .unset] [(.int (4 : Int32)), (.ref b1), (.ref b1)])) rfl (hb hby at_31)
  obtain ⟨cl15, Ar15, q15, S15, M15, Hs15, G15⟩ := id V13
  have hin15 : ¬ ((4 : Int32) < 0 ∨ cl15.slots.size ≤ ((4 : Int32)).toNatClampNeg) := inb_of S15 ⟨by decide, by decide⟩
  obtain ⟨T16, h16, X16, e16, W16, st16⟩ := stR X14 hx hZ e14 Ar15 (j := (4 : Int32)) hin15 rfl (Sto.ofV Ar15 q15 O1 (Ins.self (pr10.ext OL13.2))) (g := (mkF m 34 #[.val (.int p1), .val (.int p2), .unset, .unset, .unset, .unset] [(.ref w_A_PLUS), (.int (4 : Int32)), (.ref b1), (.ref b1)])) rfl rfl (hb hby at_34)
  have V16 : Arv Z h16 b1 k1 (.object "com/example/facility_atlas/facilityatlas/Rating") (21 : Int32) [(.ref w_AAA), (.ref w_AA_PLUS), (.ref w_AA), (.ref w_AA_MINUS), (.ref w_A_PLUS), .null, .null, .null, .null, .null, .null, .null, .null, .null, .null, .null, .null, .null, .null, .null, .null] .null := Arv.set Ar15 q15 S15 M15 Hs15 G15 rfl W16 4 rfl (Nat.le_of_ble_eq_true rfl)
  have KK16 : Keep h0 h16 [] := KK13.wr W16 (Or.inr sz_b1)
  have OL16 := OL13.wr W16 g_b1
  have N16 := Fr.snoc X16 N13 g_b1
  obtain ⟨T17, X17, e17, st17⟩ := getS2 X16 hx hZ hown (host := "") (Or.inl (wd14 hw)) Via.refl e16 (pr11.ext OL16.2) (g := (mkF m 37 #[.val (.int p1), .val (.int p2), .unset, .unset, .unset, .unset] [(.int (5 : Int32)), (.ref b1), (.ref b1)])) rfl (hb hby at_37)
  obtain ⟨cl18, Ar18, q18, S18, M18, Hs18, G18⟩ := id V16
  have hin18 : ¬ ((5 : Int32) < 0 ∨ cl18.slots.size ≤ ((5 : Int32)).toNatClampNeg) := inb_of S18 ⟨by decide, by decide⟩
  obtain ⟨T19, h19, X19, e19, W19, st19⟩ := stR X17 hx hZ e17 Ar18 (j := (5 : Int32)) hin18 rfl (Sto.ofV Ar18 q18 O1 (Ins.self (pr12.ext OL16.2))) (g := (mkF m 40 #[.val (.int p1), .val (.int p2), .unset, .unset, .unset, .unset] [(.ref w_A), (.int (5 : Int32)), (.ref b1), (.ref b1)])) rfl rfl (hb hby at_40)
  have V19 : Arv Z h19 b1 k1 (.object "com/example/facility_atlas/facilityatlas/Rating") (21 : Int32) [(.ref w_AAA), (.ref w_AA_PLUS), (.ref w_AA), (.ref w_AA_MINUS), (.ref w_A_PLUS), (.ref w_A), .null, .null, .null, .null, .null, .null, .null, .null, .null, .null, .null, .null, .null, .null, .null] .null := Arv.set Ar18 q18 S18 M18 Hs18 G18 rfl W19 5 rfl (Nat.le_of_ble_eq_true rfl)
  have KK19 : Keep h0 h19 [] := KK16.wr W19 (Or.inr sz_b1)
  have OL19 := OL16.wr W19 g_b1
  have N19 := Fr.snoc X19 N16 g_b1
  obtain ⟨T20, X20, e20, st20⟩ := getS2 X19 hx hZ hown (host := "") (Or.inl (wd16 hw)) Via.refl e19 (pr13.ext OL19.2) (g := (mkF m 44 #[.val (.int p1), .val (.int p2), .unset, .unset, .unset, .unset] [(.int (6 : Int32)), (.ref b1), (.ref b1)])) rfl (hb hby at_44)
  obtain ⟨cl21, Ar21, q21, S21, M21, Hs21, G21⟩ := id V19
  have hin21 : ¬ ((6 : Int32) < 0 ∨ cl21.slots.size ≤ ((6 : Int32)).toNatClampNeg) := inb_of S21 ⟨by decide, by decide⟩
  obtain ⟨T22, h22, X22, e22, W22, st22⟩ := stR X20 hx hZ e20 Ar21 (j := (6 : Int32)) hin21 rfl (Sto.ofV Ar21 q21 O1 (Ins.self (pr14.ext OL19.2))) (g := (mkF m 47 #[.val (.int p1), .val (.int p2), .unset, .unset, .unset, .unset] [(.ref w_A_MINUS), (.int (6 : Int32)), (.ref b1), (.ref b1)])) rfl rfl (hb hby at_47)
  have V22 : Arv Z h22 b1 k1 (.object "com/example/facility_atlas/facilityatlas/Rating") (21 : Int32) [(.ref w_AAA), (.ref w_AA_PLUS), (.ref w_AA), (.ref w_AA_MINUS), (.ref w_A_PLUS), (.ref w_A), (.ref w_A_MINUS), .null, .null, .null, .null, .null, .null, .null, .null, .null, .null, .null, .null, .null, .null] .null := Arv.set Ar21 q21 S21 M21 Hs21 G21 rfl W22 6 rfl (Nat.le_of_ble_eq_true rfl)
  have KK22 : Keep h0 h22 [] := KK19.wr W22 (Or.inr sz_b1)
  have OL22 := OL19.wr W22 g_b1
  have N22 := Fr.snoc X22 N19 g_b1
  obtain ⟨T23, X23, e23, st23⟩ := getS2 X22 hx hZ hown (host := "") (Or.inl (wd18 hw)) Via.refl e22 (pr15.ext OL22.2) (g := (mkF m 51 #[.val (.int p1), .val (.int p2), .unset, .unset, .unset, .unset] [(.int (7 : Int32)), (.ref b1), (.ref b1)])) rfl (hb hby at_51)
  obtain ⟨cl24, Ar24, q24, S24, M24, Hs24, G24⟩ := id V22
  have hin24 : ¬ ((7 : Int32) < 0 ∨ cl24.slots.size ≤ ((7 : Int32)).toNatClampNeg) := inb_of S24 ⟨by decide, by decide⟩
  obtain ⟨T25, h25, X25, e25, W25, st25⟩ := stR X23 hx hZ e23 Ar24 (j := (7 : Int32)) hin24 rfl (Sto.ofV Ar24 q24 O1 (Ins.self (pr16.ext OL22.2))) (g := (mkF m 54 #[.val (.int p1), .val (.int p2), .unset, .unset, .unset, .unset] [(.ref w_BBB_PLUS), (.int (7 : Int32)), (.ref b1), (.ref b1)])) rfl rfl (hb hby at_54)
  have V25 : Arv Z h25 b1 k1 (.object "com/example/facility_atlas/facilityatlas/Rating") (21 : Int32) [(.ref w_AAA), (.ref w_AA_PLUS), (.ref w_AA), (.ref w_AA_MINUS), (.ref w_A_PLUS), (.ref w_A), (.ref w_A_MINUS), (.ref w_BBB_PLUS), .null, .null, .null, .null, .null, .null, .null, .null, .null, .null, .null, .null, .null] .null := Arv.set Ar24 q24 S24 M24 Hs24 G24 rfl W25 7 rfl (Nat.le_of_ble_eq_true rfl)
  have KK25 : Keep h0 h25 [] := KK22.wr W25 (Or.inr sz_b1)
  have OL25 := OL22.wr W25 g_b1
  have N25 := Fr.snoc X25 N22 g_b1
  obtain ⟨T26, X26, e26, st26⟩ := getS2 X25 hx hZ hown (host := "") (Or.inl (wd20 hw)) Via.refl e25 (pr17.ext OL25.2) (g := (mkF m 58 #[.val (.int p1), .val (.int p2), .unset, .unset, .unset, .unset] [(.int (8 : Int32)), (.ref b1), (.ref b1)])) rfl (hb hby at_58)
  obtain ⟨cl27, Ar27, q27, S27, M27, Hs27, G27⟩ := id V25
  have hin27 : ¬ ((8 : Int32) < 0 ∨ cl27.slots.size ≤ ((8 : Int32)).toNatClampNeg) := inb_of S27 ⟨by decide, by decide⟩
  obtain ⟨T28, h28, X28, e28, W28, st28⟩ := stR X26 hx hZ e26 Ar27 (j := (8 : Int32)) hin27 rfl (Sto.ofV Ar27 q27 O1 (Ins.self (pr18.ext OL25.2))) (g := (mkF m 61 #[.val (.int p1), .val (.int p2), .unset, .unset, .unset, .unset] [(.ref w_BBB), (.int (8 : Int32)), (.ref b1), (.ref b1)])) rfl rfl (hb hby at_61)
  have V28 : Arv Z h28 b1 k1 (.object "com/example/facility_atlas/facilityatlas/Rating") (21 : Int32) [(.ref w_AAA), (.ref w_AA_PLUS), (.ref w_AA), (.ref w_AA_MINUS), (.ref w_A_PLUS), (.ref w_A), (.ref w_A_MINUS), (.ref w_BBB_PLUS), (.ref w_BBB), .null, .null, .null, .null, .null, .null, .null, .null, .null, .null, .null, .null] .null := Arv.set Ar27 q27 S27 M27 Hs27 G27 rfl W28 8 rfl (Nat.le_of_ble_eq_true rfl)
  have KK28 : Keep h0 h28 [] := KK25.wr W28 (Or.inr sz_b1)
  have OL28 := OL25.wr W28 g_b1
  have N28 := Fr.snoc X28 N25 g_b1
  obtain ⟨T29, X29, e29, st29⟩ := getS2 X28 hx hZ hown (host := "") (Or.inl (wd22 hw)) Via.refl e28 (pr19.ext OL28.2) (g := (mkF m 65 #[.val (.int p1), .val (.int p2), .unset, .unset, .unset, .unset] [(.int (9 : Int32)), (.ref b1), (.ref b1)])) rfl (hb hby at_65)
  obtain ⟨cl30, Ar30, q30, S30, M30, Hs30, G30⟩ := id V28
  have hin30 : ¬ ((9 : Int32) < 0 ∨ cl30.slots.size ≤ ((9 : Int32)).toNatClampNeg) := inb_of S30 ⟨by decide, by decide⟩
  obtain ⟨T31, h31, X31, e31, W31, st31⟩ := stR X29 hx hZ e29 Ar30 (j := (9 : Int32)) hin30 rfl (Sto.ofV Ar30 q30 O1 (Ins.self (pr20.ext OL28.2))) (g := (mkF m 68 #[.val (.int p1), .val (.int p2), .unset, .unset, .unset, .unset] [(.ref w_BBB_MINUS), (.int (9 : Int32)), (.ref b1), (.ref b1)])) rfl rfl (hb hby at_68)
  have V31 : Arv Z h31 b1 k1 (.object "com/example/facility_atlas/facilityatlas/Rating") (21 : Int32) [(.ref w_AAA), (.ref w_AA_PLUS), (.ref w_AA), (.ref w_AA_MINUS), (.ref w_A_PLUS), (.ref w_A), (.ref w_A_MINUS), (.ref w_BBB_PLUS), (.ref w_BBB), (.ref w_BBB_MINUS), .null, .null, .null, .null, .null, .null, .null, .null, .null, .null, .null] .null := Arv.set Ar30 q30 S30 M30 Hs30 G30 rfl W31 9 rfl (Nat.le_of_ble_eq_true rfl)
  have KK31 : Keep h0 h31 [] := KK28.wr W31 (Or.inr sz_b1)
  have OL31 := OL28.wr W31 g_b1
  have N31 := Fr.snoc X31 N28 g_b1
  obtain ⟨T32, X32, e32, st32⟩ := getS2 X31 hx hZ hown (host := "") (Or.inl (wd24 hw)) Via.refl e31 (pr21.ext OL31.2) (g := (mkF m 72 #[.val (.int p1), .val (.int p2), .unset, .unset, .unset, .unset] [(.int (10 : Int32)), (.ref b1), (.ref b1)])) rfl (hb hby at_72)
  obtain ⟨cl33, Ar33, q33, S33, M33, Hs33, G33⟩ := id V31
  have hin33 : ¬ ((10 : Int32) < 0 ∨ cl33.slots.size ≤ ((10 : Int32)).toNatClampNeg) := inb_of S33 ⟨by decide, by decide⟩
  obtain ⟨T34, h34, X34, e34, W34, st34⟩ := stR X32 hx hZ e32 Ar33 (j := (10 : Int32)) hin33 rfl (Sto.ofV Ar33 q33 O1 (Ins.self (pr22.ext OL31.2))) (g := (mkF m 75 #[.val (.int p1), .val (.int p2), .unset, .unset, .unset, .unset] [(.ref w_BB_PLUS), (.int (10 : Int32)), (.ref b1), (.ref b1)])) rfl rfl (hb hby at_75)
  have V34 : Arv Z h34 b1 k1 (.object "com/example/facility_atlas/facilityatlas/Rating") (21 : Int32) [(.ref w_AAA), (.ref w_AA_PLUS), (.ref w_AA), (.ref w_AA_MINUS), (.ref w_A_PLUS), (.ref w_A), (.ref w_A_MINUS), (.ref w_BBB_PLUS), (.ref w_BBB), (.ref w_BBB_MINUS), (.ref w_BB_PLUS), .null, .null, .null, .null, .null, .null, .null, .null, .null, .null] .null := Arv.set Ar33 q33 S33 M33 Hs33 G33 rfl W34 10 rfl (Nat.le_of_ble_eq_true rfl)
  have KK34 : Keep h0 h34 [] := KK31.wr W34 (Or.inr sz_b1)
  have OL34 := OL31.wr W34 g_b1
  have N34 := Fr.snoc X34 N31 g_b1
  obtain ⟨T35, X35, e35, st35⟩ := getS2 X34 hx hZ hown (host := "") (Or.inl (wd26 hw)) Via.refl e34 (pr23.ext OL34.2) (g := (mkF m 79 #[.val (.int p1), .val (.int p2), .unset, .unset, .unset, .unset] [(.int (11 : Int32)), (.ref b1), (.ref b1)])) rfl (hb hby at_79)
  obtain ⟨cl36, Ar36, q36, S36, M36, Hs36, G36⟩ := id V34
  have hin36 : ¬ ((11 : Int32) < 0 ∨ cl36.slots.size ≤ ((11 : Int32)).toNatClampNeg) := inb_of S36 ⟨by decide, by decide⟩
  obtain ⟨T37, h37, X37, e37, W37, st37⟩ := stR X35 hx hZ e35 Ar36 (j := (11 : Int32)) hin36 rfl (Sto.ofV Ar36 q36 O1 (Ins.self (pr24.ext OL34.2))) (g := (mkF m 82 #[.val (.int p1), .val (.int p2), .unset, .unset, .unset, .unset] [(.ref w_BB), (.int (11 : Int32)), (.ref b1), (.ref b1)])) rfl rfl (hb hby at_82)
  have V37 : Arv Z h37 b1 k1 (.object "com/example/facility_atlas/facilityatlas/Rating") (21 : Int32) [(.ref w_AAA), (.ref w_AA_PLUS), (.ref w_AA), (.ref w_AA_MINUS), (.ref w_A_PLUS), (.ref w_A), (.ref w_A_MINUS), (.ref w_BBB_PLUS), (.ref w_BBB), (.ref w_BBB_MINUS), (.ref w_BB_PLUS), (.ref w_BB), .null, .null, .null, .null, .null, .null, .null, .null, .null] .null := Arv.set Ar36 q36 S36 M36 Hs36 G36 rfl W37 11 rfl (Nat.le_of_ble_eq_true rfl)
  have KK37 : Keep h0 h37 [] := KK34.wr W37 (Or.inr sz_b1)
  have OL37 := OL34.wr W37 g_b1
  have N37 := Fr.snoc X37 N34 g_b1
  obtain ⟨T38, X38, e38, st38⟩ := getS2 X37 hx hZ hown (host := "") (Or.inl (wd28 hw)) Via.refl e37 (pr25.ext OL37.2) (g := (mkF m 86 #[.val (.int p1), .val (.int p2), .unset, .unset, .unset, .unset] [(.int (12 : Int32)), (.ref b1), (.ref b1)])) rfl (hb hby at_86)
  obtain ⟨cl39, Ar39, q39, S39, M39, Hs39, G39⟩ := id V37
  have hin39 : ¬ ((12 : Int32) < 0 ∨ cl39.slots.size ≤ ((12 : Int32)).toNatClampNeg) := inb_of S39 ⟨by decide, by decide⟩
  obtain ⟨T40, h40, X40, e40, W40, st40⟩ := stR X38 hx hZ e38 Ar39 (j := (12 : Int32)) hin39 rfl (Sto.ofV Ar39 q39 O1 (Ins.self (pr26.ext OL37.2))) (g := (mkF m 89 #[.val (.int p1), .val (.int p2), .unset, .unset, .unset, .unset] [(.ref w_BB_MINUS), (.int (12 : Int32)), (.ref b1), (.ref b1)])) rfl rfl (hb hby at_89)
  have V40 : Arv Z h40 b1 k1 (.object "com/example/facility_atlas/facilityatlas/Rating") (21 : Int32) [(.ref w_AAA), (.ref w_AA_PLUS), (.ref w_AA), (.ref w_AA_MINUS), (.ref w_A_PLUS), (.ref w_A), (.ref w_A_MINUS), (.ref w_BBB_PLUS), (.ref w_BBB), (.ref w_BBB_MINUS), (.ref w_BB_PLUS), (.ref w_BB), (.ref w_BB_MINUS), .null, .null, .null, .null, .null, .null, .null, .null] .null := Arv.set Ar39 q39 S39 M39 Hs39 G39 rfl W40 12 rfl (Nat.le_of_ble_eq_true rfl)
  have KK40 : Keep h0 h40 [] := KK37.wr W40 (Or.inr sz_b1)
  have OL40 := OL37.wr W40 g_b1
  have N40 := Fr.snoc X40 N37 g_b1
  obtain ⟨T41, X41, e41, st41⟩ := getS2 X40 hx hZ hown (host := "") (Or.inl (wd30 hw)) Via.refl e40 (pr27.ext OL40.2) (g := (mkF m 93 #[.val (.int p1), .val (.int p2), .unset, .unset, .unset, .unset] [(.int (13 : Int32)), (.ref b1), (.ref b1)])) rfl (hb hby at_93)
  obtain ⟨cl42, Ar42, q42, S42, M42, Hs42, G42⟩ := id V40
  have hin42 : ¬ ((13 : Int32) < 0 ∨ cl42.slots.size ≤ ((13 : Int32)).toNatClampNeg) := inb_of S42 ⟨by decide, by decide⟩
  obtain ⟨T43, h43, X43, e43, W43, st43⟩ := stR X41 hx hZ e41 Ar42 (j := (13 : Int32)) hin42 rfl (Sto.ofV Ar42 q42 O1 (Ins.self (pr28.ext OL40.2))) (g := (mkF m 96 #[.val (.int p1), .val (.int p2), .unset, .unset, .unset, .unset] [(.ref w_B_PLUS), (.int (13 : Int32)), (.ref b1), (.ref b1)])) rfl rfl (hb hby at_96)
  have V43 : Arv Z h43 b1 k1 (.object "com/example/facility_atlas/facilityatlas/Rating") (21 : Int32) [(.ref w_AAA), (.ref w_AA_PLUS), (.ref w_AA), (.ref w_AA_MINUS), (.ref w_A_PLUS), (.ref w_A), (.ref w_A_MINUS), (.ref w_BBB_PLUS), (.ref w_BBB), (.ref w_BBB_MINUS), (.ref w_BB_PLUS), (.ref w_BB), (.ref w_BB_MINUS), (.ref w_B_PLUS), .null, .null, .null, .null, .null, .null, .null] .null := Arv.set Ar42 q42 S42 M42 Hs42 G42 rfl W43 13 rfl (Nat.le_of_ble_eq_true rfl)
  have KK43 : Keep h0 h43 [] := KK40.wr W43 (Or.inr sz_b1)
  have OL43 := OL40.wr W43 g_b1
  have N43 := Fr.snoc X43 N40 g_b1
  obtain ⟨T44, X44, e44, st44⟩ := getS2 X43 hx hZ hown (host := "") (Or.inl (wd32 hw)) Via.refl e43 (pr29.ext OL43.2) (g := (mkF m 100 #[.val (.int p1), .val (.int p2), .unset, .unset, .unset, .unset] [(.int (14 : Int32)), (.ref b1), (.ref b1)])) rfl (hb hby at_100)
  obtain ⟨cl45, Ar45, q45, S45, M45, Hs45, G45⟩ := id V43
  have hin45 : ¬ ((14 : Int32) < 0 ∨ cl45.slots.size ≤ ((14 : Int32)).toNatClampNeg) := inb_of S45 ⟨by decide, by decide⟩
  obtain ⟨T46, h46, X46, e46, W46, st46⟩ := stR X44 hx hZ e44 Ar45 (j := (14 : Int32)) hin45 rfl (Sto.ofV Ar45 q45 O1 (Ins.self (pr30.ext OL43.2))) (g := (mkF m 103 #[.val (.int p1), .val (.int p2), .unset, .unset, .unset, .unset] [(.ref w_B), (.int (14 : Int32)), (.ref b1), (.ref b1)])) rfl rfl (hb hby at_103)
  have V46 : Arv Z h46 b1 k1 (.object "com/example/facility_atlas/facilityatlas/Rating") (21 : Int32) [(.ref w_AAA), (.ref w_AA_PLUS), (.ref w_AA), (.ref w_AA_MINUS), (.ref w_A_PLUS), (.ref w_A), (.ref w_A_MINUS), (.ref w_BBB_PLUS), (.ref w_BBB), (.ref w_BBB_MINUS), (.ref w_BB_PLUS), (.ref w_BB), (.ref w_BB_MINUS), (.ref w_B_PLUS), (.ref w_B), .null, .null, .null, .null, .null, .null] .null := Arv.set Ar45 q45 S45 M45 Hs45 G45 rfl W46 14 rfl (Nat.le_of_ble_eq_true rfl)
  have KK46 : Keep h0 h46 [] := KK43.wr W46 (Or.inr sz_b1)
  have OL46 := OL43.wr W46 g_b1
  have N46 := Fr.snoc X46 N43 g_b1
  obtain ⟨T47, X47, e47, st47⟩ := getS2 X46 hx hZ hown (host := "") (Or.inl (wd34 hw)) Via.refl e46 (pr31.ext OL46.2) (g := (mkF m 107 #[.val (.int p1), .val (.int p2), .unset, .unset, .unset, .unset] [(.int (15 : Int32)), (.ref b1), (.ref b1)])) rfl (hb hby at_107)
  obtain ⟨cl48, Ar48, q48, S48, M48, Hs48, G48⟩ := id V46
  have hin48 : ¬ ((15 : Int32) < 0 ∨ cl48.slots.size ≤ ((15 : Int32)).toNatClampNeg) := inb_of S48 ⟨by decide, by decide⟩
  obtain ⟨T49, h49, X49, e49, W49, st49⟩ := stR X47 hx hZ e47 Ar48 (j := (15 : Int32)) hin48 rfl (Sto.ofV Ar48 q48 O1 (Ins.self (pr32.ext OL46.2))) (g := (mkF m 110 #[.val (.int p1), .val (.int p2), .unset, .unset, .unset, .unset] [(.ref w_B_MINUS), (.int (15 : Int32)), (.ref b1), (.ref b1)])) rfl rfl (hb hby at_110)
  have V49 : Arv Z h49 b1 k1 (.object "com/example/facility_atlas/facilityatlas/Rating") (21 : Int32) [(.ref w_AAA), (.ref w_AA_PLUS), (.ref w_AA), (.ref w_AA_MINUS), (.ref w_A_PLUS), (.ref w_A), (.ref w_A_MINUS), (.ref w_BBB_PLUS), (.ref w_BBB), (.ref w_BBB_MINUS), (.ref w_BB_PLUS), (.ref w_BB), (.ref w_BB_MINUS), (.ref w_B_PLUS), (.ref w_B), (.ref w_B_MINUS), .null, .null, .null, .null, .null] .null := Arv.set Ar48 q48 S48 M48 Hs48 G48 rfl W49 15 rfl (Nat.le_of_ble_eq_true rfl)
  have KK49 : Keep h0 h49 [] := KK46.wr W49 (Or.inr sz_b1)
  have OL49 := OL46.wr W49 g_b1
  have N49 := Fr.snoc X49 N46 g_b1
  obtain ⟨T50, X50, e50, st50⟩ := getS2 X49 hx hZ hown (host := "") (Or.inl (wd36 hw)) Via.refl e49 (pr33.ext OL49.2) (g := (mkF m 114 #[.val (.int p1), .val (.int p2), .unset, .unset, .unset, .unset] [(.int (16 : Int32)), (.ref b1), (.ref b1)])) rfl (hb hby at_114)
  obtain ⟨cl51, Ar51, q51, S51, M51, Hs51, G51⟩ := id V49
  have hin51 : ¬ ((16 : Int32) < 0 ∨ cl51.slots.size ≤ ((16 : Int32)).toNatClampNeg) := inb_of S51 ⟨by decide, by decide⟩
  obtain ⟨T52, h52, X52, e52, W52, st52⟩ := stR X50 hx hZ e50 Ar51 (j := (16 : Int32)) hin51 rfl (Sto.ofV Ar51 q51 O1 (Ins.self (pr34.ext OL49.2))) (g := (mkF m 117 #[.val (.int p1), .val (.int p2), .unset, .unset, .unset, .unset] [(.ref w_CCC_PLUS), (.int (16 : Int32)), (.ref b1), (.ref b1)])) rfl rfl (hb hby at_117)
  have V52 : Arv Z h52 b1 k1 (.object "com/example/facility_atlas/facilityatlas/Rating") (21 : Int32) [(.ref w_AAA), (.ref w_AA_PLUS), (.ref w_AA), (.ref w_AA_MINUS), (.ref w_A_PLUS), (.ref w_A), (.ref w_A_MINUS), (.ref w_BBB_PLUS), (.ref w_BBB), (.ref w_BBB_MINUS), (.ref w_BB_PLUS), (.ref w_BB), (.ref w_BB_MINUS), (.ref w_B_PLUS), (.ref w_B), (.ref w_B_MINUS), (.ref w_CCC_PLUS), .null, .null, .null, .null] .null := Arv.set Ar51 q51 S51 M51 Hs51 G51 rfl W52 16 rfl (Nat.le_of_ble_eq_true rfl)
  have KK52 : Keep h0 h52 [] := KK49.wr W52 (Or.inr sz_b1)
  have OL52 := OL49.wr W52 g_b1
  have N52 := Fr.snoc X52 N49 g_b1
  obtain ⟨T53, X53, e53, st53⟩ := getS2 X52 hx hZ hown (host := "") (Or.inl (wd38 hw)) Via.refl e52 (pr35.ext OL52.2) (g := (mkF m 121 #[.val (.int p1), .val (.int p2), .unset, .unset, .unset, .unset] [(.int (17 : Int32)), (.ref b1), (.ref b1)])) rfl (hb hby at_121)
  obtain ⟨cl54, Ar54, q54, S54, M54, Hs54, G54⟩ := id V52
  have hin54 : ¬ ((17 : Int32) < 0 ∨ cl54.slots.size ≤ ((17 : Int32)).toNatClampNeg) := inb_of S54 ⟨by decide, by decide⟩
  obtain ⟨T55, h55, X55, e55, W55, st55⟩ := stR X53 hx hZ e53 Ar54 (j := (17 : Int32)) hin54 rfl (Sto.ofV Ar54 q54 O1 (Ins.self (pr36.ext OL52.2))) (g := (mkF m 124 #[.val (.int p1), .val (.int p2), .unset, .unset, .unset, .unset] [(.ref w_CCC), (.int (17 : Int32)), (.ref b1), (.ref b1)])) rfl rfl (hb hby at_124)
  have V55 : Arv Z h55 b1 k1 (.object "com/example/facility_atlas/facilityatlas/Rating") (21 : Int32) [(.ref w_AAA), (.ref w_AA_PLUS), (.ref w_AA), (.ref w_AA_MINUS), (.ref w_A_PLUS), (.ref w_A), (.ref w_A_MINUS), (.ref w_BBB_PLUS), (.ref w_BBB), (.ref w_BBB_MINUS), (.ref w_BB_PLUS), (.ref w_BB), (.ref w_BB_MINUS), (.ref w_B_PLUS), (.ref w_B), (.ref w_B_MINUS), (.ref w_CCC_PLUS), (.ref w_CCC), .null, .null, .null] .null := Arv.set Ar54 q54 S54 M54 Hs54 G54 rfl W55 17 rfl (Nat.le_of_ble_eq_true rfl)
  have KK55 : Keep h0 h55 [] := KK52.wr W55 (Or.inr sz_b1)
  have OL55 := OL52.wr W55 g_b1
  have N55 := Fr.snoc X55 N52 g_b1
  obtain ⟨T56, X56, e56, st56⟩ := getS2 X55 hx hZ hown (host := "") (Or.inl (wd40 hw)) Via.refl e55 (pr37.ext OL55.2) (g := (mkF m 128 #[.val (.int p1), .val (.int p2), .unset, .unset, .unset, .unset] [(.int (18 : Int32)), (.ref b1), (.ref b1)])) rfl (hb hby at_128)
  obtain ⟨cl57, Ar57, q57, S57, M57, Hs57, G57⟩ := id V55
  have hin57 : ¬ ((18 : Int32) < 0 ∨ cl57.slots.size ≤ ((18 : Int32)).toNatClampNeg) := inb_of S57 ⟨by decide, by decide⟩
  obtain ⟨T58, h58, X58, e58, W58, st58⟩ := stR X56 hx hZ e56 Ar57 (j := (18 : Int32)) hin57 rfl (Sto.ofV Ar57 q57 O1 (Ins.self (pr38.ext OL55.2))) (g := (mkF m 131 #[.val (.int p1), .val (.int p2), .unset, .unset, .unset, .unset] [(.ref w_CCC_MINUS), (.int (18 : Int32)), (.ref b1), (.ref b1)])) rfl rfl (hb hby at_131)
  have V58 : Arv Z h58 b1 k1 (.object "com/example/facility_atlas/facilityatlas/Rating") (21 : Int32) [(.ref w_AAA), (.ref w_AA_PLUS), (.ref w_AA), (.ref w_AA_MINUS), (.ref w_A_PLUS), (.ref w_A), (.ref w_A_MINUS), (.ref w_BBB_PLUS), (.ref w_BBB), (.ref w_BBB_MINUS), (.ref w_BB_PLUS), (.ref w_BB), (.ref w_BB_MINUS), (.ref w_B_PLUS), (.ref w_B), (.ref w_B_MINUS), (.ref w_CCC_PLUS), (.ref w_CCC), (.ref w_CCC_MINUS), .null, .null] .null := Arv.set Ar57 q57 S57 M57 Hs57 G57 rfl W58 18 rfl (Nat.le_of_ble_eq_true rfl)
  have KK58 : Keep h0 h58 [] := KK55.wr W58 (Or.inr sz_b1)
  have OL58 := OL55.wr W58 g_b1
  have N58 := Fr.snoc X58 N55 g_b1
  obtain ⟨T59, X59, e59, st59⟩ := getS2 X58 hx hZ hown (host := "") (Or.inl (wd42 hw)) Via.refl e58 (pr39.ext OL58.2) (g := (mkF m 135 #[.val (.int p1), .val (.int p2), .unset, .unset, .unset, .unset] [(.int (19 : Int32)), (.ref b1), (.ref b1)])) rfl (hb hby at_135)
  obtain ⟨cl60, Ar60, q60, S60, M60, Hs60, G60⟩ := id V58
  have hin60 : ¬ ((19 : Int32) < 0 ∨ cl60.slots.size ≤ ((19 : Int32)).toNatClampNeg) := inb_of S60 ⟨by decide, by decide⟩
  obtain ⟨T61, h61, X61, e61, W61, st61⟩ := stR X59 hx hZ e59 Ar60 (j := (19 : Int32)) hin60 rfl (Sto.ofV Ar60 q60 O1 (Ins.self (pr40.ext OL58.2))) (g := (mkF m 138 #[.val (.int p1), .val (.int p2), .unset, .unset, .unset, .unset] [(.ref w_CC), (.int (19 : Int32)), (.ref b1), (.ref b1)])) rfl rfl (hb hby at_138)
  have V61 : Arv Z h61 b1 k1 (.object "com/example/facility_atlas/facilityatlas/Rating") (21 : Int32) [(.ref w_AAA), (.ref w_AA_PLUS), (.ref w_AA), (.ref w_AA_MINUS), (.ref w_A_PLUS), (.ref w_A), (.ref w_A_MINUS), (.ref w_BBB_PLUS), (.ref w_BBB), (.ref w_BBB_MINUS), (.ref w_BB_PLUS), (.ref w_BB), (.ref w_BB_MINUS), (.ref w_B_PLUS), (.ref w_B), (.ref w_B_MINUS), (.ref w_CCC_PLUS), (.ref w_CCC), (.ref w_CCC_MINUS), (.ref w_CC), .null] .null := Arv.set Ar60 q60 S60 M60 Hs60 G60 rfl W61 19 rfl (Nat.le_of_ble_eq_true rfl)
  have KK61 : Keep h0 h61 [] := KK58.wr W61 (Or.inr sz_b1)
  have OL61 := OL58.wr W61 g_b1
  have N61 := Fr.snoc X61 N58 g_b1
  obtain ⟨T62, X62, e62, st62⟩ := getS2 X61 hx hZ hown (host := "") (Or.inl (wd44 hw)) Via.refl e61 (pr41.ext OL61.2) (g := (mkF m 142 #[.val (.int p1), .val (.int p2), .unset, .unset, .unset, .unset] [(.int (20 : Int32)), (.ref b1), (.ref b1)])) rfl (hb hby at_142)
  obtain ⟨cl63, Ar63, q63, S63, M63, Hs63, G63⟩ := id V61
  have hin63 : ¬ ((20 : Int32) < 0 ∨ cl63.slots.size ≤ ((20 : Int32)).toNatClampNeg) := inb_of S63 ⟨by decide, by decide⟩
  obtain ⟨T64, h64, X64, e64, W64, st64⟩ := stR X62 hx hZ e62 Ar63 (j := (20 : Int32)) hin63 rfl (Sto.ofV Ar63 q63 O1 (Ins.self (pr42.ext OL61.2))) (g := (mkF m 145 #[.val (.int p1), .val (.int p2), .unset, .unset, .unset, .unset] [(.ref w_C), (.int (20 : Int32)), (.ref b1), (.ref b1)])) rfl rfl (hb hby at_145)
  have V64 : Arv Z h64 b1 k1 (.object "com/example/facility_atlas/facilityatlas/Rating") (21 : Int32) [(.ref w_AAA), (.ref w_AA_PLUS), (.ref w_AA), (.ref w_AA_MINUS), (.ref w_A_PLUS), (.ref w_A), (.ref w_A_MINUS), (.ref w_BBB_PLUS), (.ref w_BBB), (.ref w_BBB_MINUS), (.ref w_BB_PLUS), (.ref w_BB), (.ref w_BB_MINUS), (.ref w_B_PLUS), (.ref w_B), (.ref w_B_MINUS), (.ref w_CCC_PLUS), (.ref w_CCC), (.ref w_CCC_MINUS), (.ref w_CC), (.ref w_C)] .null := Arv.set Ar63 q63 S63 M63 Hs63 G63 rfl W64 20 rfl (Nat.le_of_ble_eq_true rfl)
  have KK64 : Keep h0 h64 [] := KK61.wr W64 (Or.inr sz_b1)
  have OL64 := OL61.wr W64 g_b1
  have N64 := Fr.snoc X64 N61 g_b1
  obtain ⟨cl65, Ar65, -, S65, -, Hs65, -⟩ := id V64
  have hin65 : ¬ (((p1 &&& (2147483647 : Int32)) % (21 : Int32)) < 0 ∨ cl65.slots.size ≤ (((p1 &&& (2147483647 : Int32)) % (21 : Int32))).toNatClampNeg) := inb_of S65 ⟨pr44, pr45⟩
  have hat65 : cl65.slots[(((p1 &&& (2147483647 : Int32)) % (21 : Int32))).toNatClampNeg]? = some (.ref v1) := Hs65.at hin65 pr46
  obtain ⟨cl66, Ar66, -, S66, -, Hs66, -⟩ := id V64
  have hin66 : ¬ (((p2 &&& (2147483647 : Int32)) % (21 : Int32)) < 0 ∨ cl66.slots.size ≤ (((p2 &&& (2147483647 : Int32)) % (21 : Int32))).toNatClampNeg) := inb_of S66 ⟨pr47, pr48⟩
  have hat66 : cl66.slots[(((p2 &&& (2147483647 : Int32)) % (21 : Int32))).toNatClampNeg]? = some (.ref v2) := Hs66.at hin66 pr49
  obtain ⟨cq67, kq67, q67a, q67b, q67c⟩ := isOf hZ e64 (pr51.ext OL64.2)
  obtain ⟨_, _, ⟨T67, L67, k67, n67⟩, -, X67, ⟨Lc67, hQ67, l67, y67, z67⟩, st67⟩ := X64.virtualBack hx (y := (⟨"com/example/facility_atlas/facilityatlas/Rating", "isAtOrAbove", "(Lcom/example/facility_atlas/facilityatlas/Rating;)Z"⟩ : MethodName)) (z := (⟨"com/example/facility_atlas/facilityatlas/Rating", "isAtOrAbove", "(Lcom/example/facility_atlas/facilityatlas/Rating;)Z"⟩ : MethodName)) hown (mvT hZ (wd47 hw)) (mvT hZ (wd48 hw)) (notFace_of_selects (args := #[]) (mvT hZ (wd50 hw))) (mvT hZ (wd50 hw)) (mvT hZ (wd49 hw)) (by decide) (backOf (W := 0) (rm1_1 l Z a0 hw [] v1 v2 ((p1 &&& (2147483647 : Int32)) % (21 : Int32)) ((p2 &&& (2147483647 : Int32)) % (21 : Int32)) h64 n0 OL64 pr50 pr51 pr52 pr53 pr43) hZ (wd51 hw) (wd3 hw) (by decide) (by decide)) q67a q67c (g := (mkF m 184 #[.val (.int p1), .val (.int p2), .val (.ref b1), .val (.int ((p1 &&& (2147483647 : Int32)) % (21 : Int32))), .val (.int ((p2 &&& (2147483647 : Int32)) % (21 : Int32))), .val (.int (0 : Int32))] [(.ref v2), (.ref v1)])) rfl (by rw [hml]; rfl) (Steps.refl _) (argsL := [(.ref v2)]) (rest := []) (lenOf pd_1 rfl) rfl (by show 2 * 0 + _ ≤ _; exact Nat.le_of_eq rfl) (hb hby at_184) (fun _ _ => ⟨rfl, e64, (by decide : 1 + 0 ≤ _), (by decide : 21 + 0 ≤ _)⟩)
  dsimp only [Pt.U, Pt.locs, Pt.cells, Pt.slots] at X67 l67 y67 z67 st67 hQ67
  subst l67 y67 z67
  obtain ⟨rfl, Nq67, ec67⟩ := hQ67
  have N67 := Fr.app N64 Nq67
  obtain ⟨fs, hr, hrun, hended, hW, hsame⟩ := X67.leave (v := some (.int (1 : Int32))) (fun h => by rw [Bd.returns] at h; cases h)
  refine ⟨_, _, pre0 _ ?_, hrun, hended, _, _, rfl, ?_, ⟨_, rfl⟩, hW, hsame.mono (by decide) (by decide)⟩
  · show Steps p.tables e below (s₁.setTop (mkF m 0 #[.val (.int p1), .val (.int p2), .unset, .unset, .unset, .unset] [])) _
    refine XS.bipush X0.here hx rfl (hb hby at_0) ?_
    show Steps p.tables e below (s₁.setTop (mkF m 2 #[.val (.int p1), .val (.int p2), .unset, .unset, .unset, .unset] [(.int (21 : Int32))])) _
    refine st1 _ ?_
    show Steps p.tables e below (T1.setTop (mkF m 5 #[.val (.int p1), .val (.int p2), .unset, .unset, .unset, .unset] [(.ref b1)])) _
    refine XS.dup X1.here hx rfl (hb hby at_5) rfl rfl ?_
    show Steps p.tables e below (T1.setTop (mkF m 6 #[.val (.int p1), .val (.int p2), .unset, .unset, .unset, .unset] [(.ref b1), (.ref b1)])) _
    refine XS.iconst X1.here hx rfl (hb hby at_6) ?_
    show Steps p.tables e below (T1.setTop (mkF m 7 #[.val (.int p1), .val (.int p2), .unset, .unset, .unset, .unset] [(.int (0 : Int32)), (.ref b1), (.ref b1)])) _
    refine st2 _ ?_
    show Steps p.tables e below (T2.setTop (mkF m 10 #[.val (.int p1), .val (.int p2), .unset, .unset, .unset, .unset] [(.ref w_AAA), (.int (0 : Int32)), (.ref b1), (.ref b1)])) _
    refine st4 _ ?_
    show Steps p.tables e below (T4.setTop (mkF m 11 #[.val (.int p1), .val (.int p2), .unset, .unset, .unset, .unset] [(.ref b1)])) _
    refine XS.dup X4.here hx rfl (hb hby at_11) rfl rfl ?_
    show Steps p.tables e below (T4.setTop (mkF m 12 #[.val (.int p1), .val (.int p2), .unset, .unset, .unset, .unset] [(.ref b1), (.ref b1)])) _
    refine XS.iconst X4.here hx rfl (hb hby at_12) ?_
    show Steps p.tables e below (T4.setTop (mkF m 13 #[.val (.int p1), .val (.int p2), .unset, .unset, .unset, .unset] [(.int (1 : Int32)), (.ref b1), (.ref b1)])) _
    refine st5 _ ?_
    show Steps p.tables e below (T5.setTop (mkF m 16 #[.val (.int p1), .val (.int p2), .unset, .unset, .unset, .unset] [(.ref w_AA_PLUS), (.int (1 : Int32)), (.ref b1), (.ref b1)])) _
    refine st7 _ ?_
    show Steps p.tables e below (T7.setTop (mkF m 17 #[.val (.int p1), .val (.int p2), .unset, .unset, .unset, .unset] [(.ref b1)])) _
    refine XS.dup X7.here hx rfl (hb hby at_17) rfl rfl ?_
    show Steps p.tables e below (T7.setTop (mkF m 18 #[.val (.int p1), .val (.int p2), .unset, .unset, .unset, .unset] [(.ref b1), (.ref b1)])) _
    refine XS.iconst X7.here hx rfl (hb hby at_18) ?_
    show Steps p.tables e below (T7.setTop (mkF m 19 #[.val (.int p1), .val (.int p2), .unset, .unset, .unset, .unset] [(.int (2 : Int32)), (.ref b1), (.ref b1)])) _
    refine st8 _ ?_
    show Steps p.tables e below (T8.setTop (mkF m 22 #[.val (.int p1), .val (.int p2), .unset, .unset, .unset, .unset] [(.ref w_AA), (.int (2 : Int32)), (.ref b1), (.ref b1)])) _
    refine st10 _ ?_
    show Steps p.tables e below (T10.setTop (mkF m 23 #[.val (.int p1), .val (.int p2), .unset, .unset, .unset, .unset] [(.ref b1)])) _
    refine XS.dup X10.here hx rfl (hb hby at_23) rfl rfl ?_
    show Steps p.tables e below (T10.setTop (mkF m 24 #[.val (.int p1), .val (.int p2), .unset, .unset, .unset, .unset] [(.ref b1), (.ref b1)])) _
    refine XS.iconst X10.here hx rfl (hb hby at_24) ?_
    show Steps p.tables e below (T10.setTop (mkF m 25 #[.val (.int p1), .val (.int p2), .unset, .unset, .unset, .unset] [(.int (3 : Int32)), (.ref b1), (.ref b1)])) _
    refine st11 _ ?_
    show Steps p.tables e below (T11.setTop (mkF m 28 #[.val (.int p1), .val (.int p2), .unset, .unset, .unset, .unset] [(.ref w_AA_MINUS), (.int (3 : Int32)), (.ref b1), (.ref b1)])) _
    refine st13 _ ?_
    show Steps p.tables e below (T13.setTop (mkF m 29 #[.val (.int p1), .val (.int p2), .unset, .unset, .unset, .unset] [(.ref b1)])) _
    refine XS.dup X13.here hx rfl (hb hby at_29) rfl rfl ?_
    show Steps p.tables e below (T13.setTop (mkF m 30 #[.val (.int p1), .val (.int p2), .unset, .unset, .unset, .unset] [(.ref b1), (.ref b1)])) _
    refine XS.iconst X13.here hx rfl (hb hby at_30) ?_
    show Steps p.tables e below (T13.setTop (mkF m 31 #[.val (.int p1), .val (.int p2), .unset, .unset, .unset, .unset] [(.int (4 : Int32)), (.ref b1), (.ref b1)])) _
    refine st14 _ ?_
    show Steps p.tables e below (T14.setTop (mkF m 34 #[.val (.int p1), .val (.int p2), .unset, .unset, .unset, .unset] [(.ref w_A_PLUS), (.int (4 : Int32)), (.ref b1), (.ref b1)])) _
    refine st16 _ ?_
    show Steps p.tables e below (T16.setTop (mkF m 35 #[.val (.int p1), .val (.int p2), .unset, .unset, .unset, .unset] [(.ref b1)])) _
    refine XS.dup X16.here hx rfl (hb hby at_35) rfl rfl ?_
    show Steps p.tables e below (T16.setTop (mkF m 36 #[.val (.int p1), .val (.int p2), .unset, .unset, .unset, .unset] [(.ref b1), (.ref b1)])) _
    refine XS.iconst X16.here hx rfl (hb hby at_36) ?_
    show Steps p.tables e below (T16.setTop (mkF m 37 #[.val (.int p1), .val (.int p2), .unset, .unset, .unset, .unset] [(.int (5 : Int32)), (.ref b1), (.ref b1)])) _
    refine st17 _ ?_
    show Steps p.tables e below (T17.setTop (mkF m 40 #[.val (.int p1), .val (.int p2), .unset, .unset, .unset, .unset] [(.ref w_A), (.int (5 : Int32)), (.ref b1), (.ref b1)])) _
    refine st19 _ ?_
    show Steps p.tables e below (T19.setTop (mkF m 41 #[.val (.int p1), .val (.int p2), .unset, .unset, .unset, .unset] [(.ref b1)])) _
    refine XS.dup X19.here hx rfl (hb hby at_41) rfl rfl ?_
    show Steps p.tables e below (T19.setTop (mkF m 42 #[.val (.int p1), .val (.int p2), .unset, .unset, .unset, .unset] [(.ref b1), (.ref b1)])) _
    refine XS.bipush X19.here hx rfl (hb hby at_42) ?_
    show Steps p.tables e below (T19.setTop (mkF m 44 #[.val (.int p1), .val (.int p2), .unset, .unset, .unset, .unset] [(.int (6 : Int32)), (.ref b1), (.ref b1)])) _
    refine st20 _ ?_
    show Steps p.tables e below (T20.setTop (mkF m 47 #[.val (.int p1), .val (.int p2), .unset, .unset, .unset, .unset] [(.ref w_A_MINUS), (.int (6 : Int32)), (.ref b1), (.ref b1)])) _
    refine st22 _ ?_
    show Steps p.tables e below (T22.setTop (mkF m 48 #[.val (.int p1), .val (.int p2), .unset, .unset, .unset, .unset] [(.ref b1)])) _
    refine XS.dup X22.here hx rfl (hb hby at_48) rfl rfl ?_
    show Steps p.tables e below (T22.setTop (mkF m 49 #[.val (.int p1), .val (.int p2), .unset, .unset, .unset, .unset] [(.ref b1), (.ref b1)])) _
    refine XS.bipush X22.here hx rfl (hb hby at_49) ?_
    show Steps p.tables e below (T22.setTop (mkF m 51 #[.val (.int p1), .val (.int p2), .unset, .unset, .unset, .unset] [(.int (7 : Int32)), (.ref b1), (.ref b1)])) _
    refine st23 _ ?_
    show Steps p.tables e below (T23.setTop (mkF m 54 #[.val (.int p1), .val (.int p2), .unset, .unset, .unset, .unset] [(.ref w_BBB_PLUS), (.int (7 : Int32)), (.ref b1), (.ref b1)])) _
    refine st25 _ ?_
    show Steps p.tables e below (T25.setTop (mkF m 55 #[.val (.int p1), .val (.int p2), .unset, .unset, .unset, .unset] [(.ref b1)])) _
    refine XS.dup X25.here hx rfl (hb hby at_55) rfl rfl ?_
    show Steps p.tables e below (T25.setTop (mkF m 56 #[.val (.int p1), .val (.int p2), .unset, .unset, .unset, .unset] [(.ref b1), (.ref b1)])) _
    refine XS.bipush X25.here hx rfl (hb hby at_56) ?_
    show Steps p.tables e below (T25.setTop (mkF m 58 #[.val (.int p1), .val (.int p2), .unset, .unset, .unset, .unset] [(.int (8 : Int32)), (.ref b1), (.ref b1)])) _
    refine st26 _ ?_
    show Steps p.tables e below (T26.setTop (mkF m 61 #[.val (.int p1), .val (.int p2), .unset, .unset, .unset, .unset] [(.ref w_BBB), (.int (8 : Int32)), (.ref b1), (.ref b1)])) _
    refine st28 _ ?_
    show Steps p.tables e below (T28.setTop (mkF m 62 #[.val (.int p1), .val (.int p2), .unset, .unset, .unset, .unset] [(.ref b1)])) _
    refine XS.dup X28.here hx rfl (hb hby at_62) rfl rfl ?_
    show Steps p.tables e below (T28.setTop (mkF m 63 #[.val (.int p1), .val (.int p2), .unset, .unset, .unset, .unset] [(.ref b1), (.ref b1)])) _
    refine XS.bipush X28.here hx rfl (hb hby at_63) ?_
    show Steps p.tables e below (T28.setTop (mkF m 65 #[.val (.int p1), .val (.int p2), .unset, .unset, .unset, .unset] [(.int (9 : Int32)), (.ref b1), (.ref b1)])) _
    refine st29 _ ?_
    show Steps p.tables e below (T29.setTop (mkF m 68 #[.val (.int p1), .val (.int p2), .unset, .unset, .unset, .unset] [(.ref w_BBB_MINUS), (.int (9 : Int32)), (.ref b1), (.ref b1)])) _
    refine st31 _ ?_
    show Steps p.tables e below (T31.setTop (mkF m 69 #[.val (.int p1), .val (.int p2), .unset, .unset, .unset, .unset] [(.ref b1)])) _
    refine XS.dup X31.here hx rfl (hb hby at_69) rfl rfl ?_
    show Steps p.tables e below (T31.setTop (mkF m 70 #[.val (.int p1), .val (.int p2), .unset, .unset, .unset, .unset] [(.ref b1), (.ref b1)])) _
    refine XS.bipush X31.here hx rfl (hb hby at_70) ?_
    show Steps p.tables e below (T31.setTop (mkF m 72 #[.val (.int p1), .val (.int p2), .unset, .unset, .unset, .unset] [(.int (10 : Int32)), (.ref b1), (.ref b1)])) _
    refine st32 _ ?_
    show Steps p.tables e below (T32.setTop (mkF m 75 #[.val (.int p1), .val (.int p2), .unset, .unset, .unset, .unset] [(.ref w_BB_PLUS), (.int (10 : Int32)), (.ref b1), (.ref b1)])) _
    refine st34 _ ?_
    show Steps p.tables e below (T34.setTop (mkF m 76 #[.val (.int p1), .val (.int p2), .unset, .unset, .unset, .unset] [(.ref b1)])) _
    refine XS.dup X34.here hx rfl (hb hby at_76) rfl rfl ?_
    show Steps p.tables e below (T34.setTop (mkF m 77 #[.val (.int p1), .val (.int p2), .unset, .unset, .unset, .unset] [(.ref b1), (.ref b1)])) _
    refine XS.bipush X34.here hx rfl (hb hby at_77) ?_
    show Steps p.tables e below (T34.setTop (mkF m 79 #[.val (.int p1), .val (.int p2), .unset, .unset, .unset, .unset] [(.int (11 : Int32)), (.ref b1), (.ref b1)])) _
    refine st35 _ ?_
    show Steps p.tables e below (T35.setTop (mkF m 82 #[.val (.int p1), .val (.int p2), .unset, .unset, .unset, .unset] [(.ref w_BB), (.int (11 : Int32)), (.ref b1), (.ref b1)])) _
    refine st37 _ ?_
    show Steps p.tables e below (T37.setTop (mkF m 83 #[.val (.int p1), .val (.int p2), .unset, .unset, .unset, .unset] [(.ref b1)])) _
    refine XS.dup X37.here hx rfl (hb hby at_83) rfl rfl ?_
    show Steps p.tables e below (T37.setTop (mkF m 84 #[.val (.int p1), .val (.int p2), .unset, .unset, .unset, .unset] [(.ref b1), (.ref b1)])) _
    refine XS.bipush X37.here hx rfl (hb hby at_84) ?_
    show Steps p.tables e below (T37.setTop (mkF m 86 #[.val (.int p1), .val (.int p2), .unset, .unset, .unset, .unset] [(.int (12 : Int32)), (.ref b1), (.ref b1)])) _
    refine st38 _ ?_
    show Steps p.tables e below (T38.setTop (mkF m 89 #[.val (.int p1), .val (.int p2), .unset, .unset, .unset, .unset] [(.ref w_BB_MINUS), (.int (12 : Int32)), (.ref b1), (.ref b1)])) _
    refine st40 _ ?_
    show Steps p.tables e below (T40.setTop (mkF m 90 #[.val (.int p1), .val (.int p2), .unset, .unset, .unset, .unset] [(.ref b1)])) _
    refine XS.dup X40.here hx rfl (hb hby at_90) rfl rfl ?_
    show Steps p.tables e below (T40.setTop (mkF m 91 #[.val (.int p1), .val (.int p2), .unset, .unset, .unset, .unset] [(.ref b1), (.ref b1)])) _
    refine XS.bipush X40.here hx rfl (hb hby at_91) ?_
    show Steps p.tables e below (T40.setTop (mkF m 93 #[.val (.int p1), .val (.int p2), .unset, .unset, .unset, .unset] [(.int (13 : Int32)), (.ref b1), (.ref b1)])) _
    refine st41 _ ?_
    show Steps p.tables e below (T41.setTop (mkF m 96 #[.val (.int p1), .val (.int p2), .unset, .unset, .unset, .unset] [(.ref w_B_PLUS), (.int (13 : Int32)), (.ref b1), (.ref b1)])) _
    refine st43 _ ?_
    show Steps p.tables e below (T43.setTop (mkF m 97 #[.val (.int p1), .val (.int p2), .unset, .unset, .unset, .unset] [(.ref b1)])) _
    refine XS.dup X43.here hx rfl (hb hby at_97) rfl rfl ?_
    show Steps p.tables e below (T43.setTop (mkF m 98 #[.val (.int p1), .val (.int p2), .unset, .unset, .unset, .unset] [(.ref b1), (.ref b1)])) _
    refine XS.bipush X43.here hx rfl (hb hby at_98) ?_
    show Steps p.tables e below (T43.setTop (mkF m 100 #[.val (.int p1), .val (.int p2), .unset, .unset, .unset, .unset] [(.int (14 : Int32)), (.ref b1), (.ref b1)])) _
    refine st44 _ ?_
    show Steps p.tables e below (T44.setTop (mkF m 103 #[.val (.int p1), .val (.int p2), .unset, .unset, .unset, .unset] [(.ref w_B), (.int (14 : Int32)), (.ref b1), (.ref b1)])) _
    refine st46 _ ?_
    show Steps p.tables e below (T46.setTop (mkF m 104 #[.val (.int p1), .val (.int p2), .unset, .unset, .unset, .unset] [(.ref b1)])) _
    refine XS.dup X46.here hx rfl (hb hby at_104) rfl rfl ?_
    show Steps p.tables e below (T46.setTop (mkF m 105 #[.val (.int p1), .val (.int p2), .unset, .unset, .unset, .unset] [(.ref b1), (.ref b1)])) _
    refine XS.bipush X46.here hx rfl (hb hby at_105) ?_
    show Steps p.tables e below (T46.setTop (mkF m 107 #[.val (.int p1), .val (.int p2), .unset, .unset, .unset, .unset] [(.int (15 : Int32)), (.ref b1), (.ref b1)])) _
    refine st47 _ ?_
    show Steps p.tables e below (T47.setTop (mkF m 110 #[.val (.int p1), .val (.int p2), .unset, .unset, .unset, .unset] [(.ref w_B_MINUS), (.int (15 : Int32)), (.ref b1), (.ref b1)])) _
    refine st49 _ ?_
    show Steps p.tables e below (T49.setTop (mkF m 111 #[.val (.int p1), .val (.int p2), .unset, .unset, .unset, .unset] [(.ref b1)])) _
    refine XS.dup X49.here hx rfl (hb hby at_111) rfl rfl ?_
    show Steps p.tables e below (T49.setTop (mkF m 112 #[.val (.int p1), .val (.int p2), .unset, .unset, .unset, .unset] [(.ref b1), (.ref b1)])) _
    refine XS.bipush X49.here hx rfl (hb hby at_112) ?_
    show Steps p.tables e below (T49.setTop (mkF m 114 #[.val (.int p1), .val (.int p2), .unset, .unset, .unset, .unset] [(.int (16 : Int32)), (.ref b1), (.ref b1)])) _
    refine st50 _ ?_
    show Steps p.tables e below (T50.setTop (mkF m 117 #[.val (.int p1), .val (.int p2), .unset, .unset, .unset, .unset] [(.ref w_CCC_PLUS), (.int (16 : Int32)), (.ref b1), (.ref b1)])) _
    refine st52 _ ?_
    show Steps p.tables e below (T52.setTop (mkF m 118 #[.val (.int p1), .val (.int p2), .unset, .unset, .unset, .unset] [(.ref b1)])) _
    refine XS.dup X52.here hx rfl (hb hby at_118) rfl rfl ?_
    show Steps p.tables e below (T52.setTop (mkF m 119 #[.val (.int p1), .val (.int p2), .unset, .unset, .unset, .unset] [(.ref b1), (.ref b1)])) _
    refine XS.bipush X52.here hx rfl (hb hby at_119) ?_
    show Steps p.tables e below (T52.setTop (mkF m 121 #[.val (.int p1), .val (.int p2), .unset, .unset, .unset, .unset] [(.int (17 : Int32)), (.ref b1), (.ref b1)])) _
    refine st53 _ ?_
    show Steps p.tables e below (T53.setTop (mkF m 124 #[.val (.int p1), .val (.int p2), .unset, .unset, .unset, .unset] [(.ref w_CCC), (.int (17 : Int32)), (.ref b1), (.ref b1)])) _
    refine st55 _ ?_
    show Steps p.tables e below (T55.setTop (mkF m 125 #[.val (.int p1), .val (.int p2), .unset, .unset, .unset, .unset] [(.ref b1)])) _
    refine XS.dup X55.here hx rfl (hb hby at_125) rfl rfl ?_
    show Steps p.tables e below (T55.setTop (mkF m 126 #[.val (.int p1), .val (.int p2), .unset, .unset, .unset, .unset] [(.ref b1), (.ref b1)])) _
    refine XS.bipush X55.here hx rfl (hb hby at_126) ?_
    show Steps p.tables e below (T55.setTop (mkF m 128 #[.val (.int p1), .val (.int p2), .unset, .unset, .unset, .unset] [(.int (18 : Int32)), (.ref b1), (.ref b1)])) _
    refine st56 _ ?_
    show Steps p.tables e below (T56.setTop (mkF m 131 #[.val (.int p1), .val (.int p2), .unset, .unset, .unset, .unset] [(.ref w_CCC_MINUS), (.int (18 : Int32)), (.ref b1), (.ref b1)])) _
    refine st58 _ ?_
    show Steps p.tables e below (T58.setTop (mkF m 132 #[.val (.int p1), .val (.int p2), .unset, .unset, .unset, .unset] [(.ref b1)])) _
    refine XS.dup X58.here hx rfl (hb hby at_132) rfl rfl ?_
    show Steps p.tables e below (T58.setTop (mkF m 133 #[.val (.int p1), .val (.int p2), .unset, .unset, .unset, .unset] [(.ref b1), (.ref b1)])) _
    refine XS.bipush X58.here hx rfl (hb hby at_133) ?_
    show Steps p.tables e below (T58.setTop (mkF m 135 #[.val (.int p1), .val (.int p2), .unset, .unset, .unset, .unset] [(.int (19 : Int32)), (.ref b1), (.ref b1)])) _
    refine st59 _ ?_
    show Steps p.tables e below (T59.setTop (mkF m 138 #[.val (.int p1), .val (.int p2), .unset, .unset, .unset, .unset] [(.ref w_CC), (.int (19 : Int32)), (.ref b1), (.ref b1)])) _
    refine st61 _ ?_
    show Steps p.tables e below (T61.setTop (mkF m 139 #[.val (.int p1), .val (.int p2), .unset, .unset, .unset, .unset] [(.ref b1)])) _
    refine XS.dup X61.here hx rfl (hb hby at_139) rfl rfl ?_
    show Steps p.tables e below (T61.setTop (mkF m 140 #[.val (.int p1), .val (.int p2), .unset, .unset, .unset, .unset] [(.ref b1), (.ref b1)])) _
    refine XS.bipush X61.here hx rfl (hb hby at_140) ?_
    show Steps p.tables e below (T61.setTop (mkF m 142 #[.val (.int p1), .val (.int p2), .unset, .unset, .unset, .unset] [(.int (20 : Int32)), (.ref b1), (.ref b1)])) _
    refine st62 _ ?_
    show Steps p.tables e below (T62.setTop (mkF m 145 #[.val (.int p1), .val (.int p2), .unset, .unset, .unset, .unset] [(.ref w_C), (.int (20 : Int32)), (.ref b1), (.ref b1)])) _
    refine st64 _ ?_
    show Steps p.tables e below (T64.setTop (mkF m 146 #[.val (.int p1), .val (.int p2), .unset, .unset, .unset, .unset] [(.ref b1)])) _
    refine XS.astoreN X64.here hx rfl (hb hby at_146) rfl rfl (l' := #[.val (.int p1), .val (.int p2), .val (.ref b1), .unset, .unset, .unset]) rfl ?_
    show Steps p.tables e below (T64.setTop (mkF m 147 #[.val (.int p1), .val (.int p2), .val (.ref b1), .unset, .unset, .unset] [])) _
    refine XS.iloadN X64.here hx rfl (hb hby at_147) rfl ?_
    show Steps p.tables e below (T64.setTop (mkF m 148 #[.val (.int p1), .val (.int p2), .val (.ref b1), .unset, .unset, .unset] [(.int p1)])) _
    refine X64.ldcInt hx hown (mvT hZ (wd46 hw)) (g := (mkF m 148 #[.val (.int p1), .val (.int p2), .val (.ref b1), .unset, .unset, .unset] [(.int p1)])) rfl (hb hby at_148) _ ?_
    show Steps p.tables e below (T64.setTop (mkF m 150 #[.val (.int p1), .val (.int p2), .val (.ref b1), .unset, .unset, .unset] [(.int (2147483647 : Int32)), (.int p1)])) _
    refine XS.iand X64.here hx rfl (hb hby at_150) rfl ?_
    show Steps p.tables e below (T64.setTop (mkF m 151 #[.val (.int p1), .val (.int p2), .val (.ref b1), .unset, .unset, .unset] [(.int (p1 &&& (2147483647 : Int32)))])) _
    refine XS.bipush X64.here hx rfl (hb hby at_151) ?_
    show Steps p.tables e below (T64.setTop (mkF m 153 #[.val (.int p1), .val (.int p2), .val (.ref b1), .unset, .unset, .unset] [(.int (21 : Int32)), (.int (p1 &&& (2147483647 : Int32)))])) _
    refine iremM X64 hx rfl (hb hby at_153) rfl (by decide) ?_
    show Steps p.tables e below (T64.setTop (mkF m 154 #[.val (.int p1), .val (.int p2), .val (.ref b1), .unset, .unset, .unset] [(.int ((p1 &&& (2147483647 : Int32)) % (21 : Int32)))])) _
    refine XS.istoreN X64.here hx rfl (hb hby at_154) rfl (l' := #[.val (.int p1), .val (.int p2), .val (.ref b1), .val (.int ((p1 &&& (2147483647 : Int32)) % (21 : Int32))), .unset, .unset]) rfl ?_
    show Steps p.tables e below (T64.setTop (mkF m 155 #[.val (.int p1), .val (.int p2), .val (.ref b1), .val (.int ((p1 &&& (2147483647 : Int32)) % (21 : Int32))), .unset, .unset] [])) _
    refine XS.iloadN X64.here hx rfl (hb hby at_155) rfl ?_
    show Steps p.tables e below (T64.setTop (mkF m 156 #[.val (.int p1), .val (.int p2), .val (.ref b1), .val (.int ((p1 &&& (2147483647 : Int32)) % (21 : Int32))), .unset, .unset] [(.int p2)])) _
    refine X64.ldcInt hx hown (mvT hZ (wd46 hw)) (g := (mkF m 156 #[.val (.int p1), .val (.int p2), .val (.ref b1), .val (.int ((p1 &&& (2147483647 : Int32)) % (21 : Int32))), .unset, .unset] [(.int p2)])) rfl (hb hby at_156) _ ?_
    show Steps p.tables e below (T64.setTop (mkF m 158 #[.val (.int p1), .val (.int p2), .val (.ref b1), .val (.int ((p1 &&& (2147483647 : Int32)) % (21 : Int32))), .unset, .unset] [(.int (2147483647 : Int32)), (.int p2)])) _
    refine XS.iand X64.here hx rfl (hb hby at_158) rfl ?_
    show Steps p.tables e below (T64.setTop (mkF m 159 #[.val (.int p1), .val (.int p2), .val (.ref b1), .val (.int ((p1 &&& (2147483647 : Int32)) % (21 : Int32))), .unset, .unset] [(.int (p2 &&& (2147483647 : Int32)))])) _
    refine XS.bipush X64.here hx rfl (hb hby at_159) ?_
    show Steps p.tables e below (T64.setTop (mkF m 161 #[.val (.int p1), .val (.int p2), .val (.ref b1), .val (.int ((p1 &&& (2147483647 : Int32)) % (21 : Int32))), .unset, .unset] [(.int (21 : Int32)), (.int (p2 &&& (2147483647 : Int32)))])) _
    refine iremM X64 hx rfl (hb hby at_161) rfl (by decide) ?_
    show Steps p.tables e below (T64.setTop (mkF m 162 #[.val (.int p1), .val (.int p2), .val (.ref b1), .val (.int ((p1 &&& (2147483647 : Int32)) % (21 : Int32))), .unset, .unset] [(.int ((p2 &&& (2147483647 : Int32)) % (21 : Int32)))])) _
    refine XS.istore X64.here hx rfl (hb hby at_162) rfl (l' := #[.val (.int p1), .val (.int p2), .val (.ref b1), .val (.int ((p1 &&& (2147483647 : Int32)) % (21 : Int32))), .val (.int ((p2 &&& (2147483647 : Int32)) % (21 : Int32))), .unset]) rfl ?_
    show Steps p.tables e below (T64.setTop (mkF m 164 #[.val (.int p1), .val (.int p2), .val (.ref b1), .val (.int ((p1 &&& (2147483647 : Int32)) % (21 : Int32))), .val (.int ((p2 &&& (2147483647 : Int32)) % (21 : Int32))), .unset] [])) _
    refine XS.iloadN X64.here hx rfl (hb hby at_164) rfl ?_
    show Steps p.tables e below (T64.setTop (mkF m 165 #[.val (.int p1), .val (.int p2), .val (.ref b1), .val (.int ((p1 &&& (2147483647 : Int32)) % (21 : Int32))), .val (.int ((p2 &&& (2147483647 : Int32)) % (21 : Int32))), .unset] [(.int ((p1 &&& (2147483647 : Int32)) % (21 : Int32)))])) _
    refine XS.iload X64.here hx rfl (hb hby at_165) rfl ?_
    show Steps p.tables e below (T64.setTop (mkF m 167 #[.val (.int p1), .val (.int p2), .val (.ref b1), .val (.int ((p1 &&& (2147483647 : Int32)) % (21 : Int32))), .val (.int ((p2 &&& (2147483647 : Int32)) % (21 : Int32))), .unset] [(.int ((p2 &&& (2147483647 : Int32)) % (21 : Int32))), (.int ((p1 &&& (2147483647 : Int32)) % (21 : Int32)))])) _
    refine XS.icmpYes X64.here hx rfl (pc0 := 167) (pc' := 174) rfl (hb hby at_167) rfl (tlt pr43).2.2.1 (by decide) (by decide) ?_
    show Steps p.tables e below (T64.setTop (mkF m 174 #[.val (.int p1), .val (.int p2), .val (.ref b1), .val (.int ((p1 &&& (2147483647 : Int32)) % (21 : Int32))), .val (.int ((p2 &&& (2147483647 : Int32)) % (21 : Int32))), .unset] [])) _
    refine XS.iconst X64.here hx rfl (hb hby at_174) ?_
    show Steps p.tables e below (T64.setTop (mkF m 175 #[.val (.int p1), .val (.int p2), .val (.ref b1), .val (.int ((p1 &&& (2147483647 : Int32)) % (21 : Int32))), .val (.int ((p2 &&& (2147483647 : Int32)) % (21 : Int32))), .unset] [(.int (0 : Int32))])) _
    refine XS.istore X64.here hx rfl (hb hby at_175) rfl (l' := #[.val (.int p1), .val (.int p2), .val (.ref b1), .val (.int ((p1 &&& (2147483647 : Int32)) % (21 : Int32))), .val (.int ((p2 &&& (2147483647 : Int32)) % (21 : Int32))), .val (.int (0 : Int32))]) rfl ?_
    show Steps p.tables e below (T64.setTop (mkF m 177 #[.val (.int p1), .val (.int p2), .val (.ref b1), .val (.int ((p1 &&& (2147483647 : Int32)) % (21 : Int32))), .val (.int ((p2 &&& (2147483647 : Int32)) % (21 : Int32))), .val (.int (0 : Int32))] [])) _
    refine XS.aloadN X64.here hx rfl (hb hby at_177) rfl rfl ?_
    show Steps p.tables e below (T64.setTop (mkF m 178 #[.val (.int p1), .val (.int p2), .val (.ref b1), .val (.int ((p1 &&& (2147483647 : Int32)) % (21 : Int32))), .val (.int ((p2 &&& (2147483647 : Int32)) % (21 : Int32))), .val (.int (0 : Int32))] [(.ref b1)])) _
    refine XS.iloadN X64.here hx rfl (hb hby at_178) rfl ?_
    show Steps p.tables e below (T64.setTop (mkF m 179 #[.val (.int p1), .val (.int p2), .val (.ref b1), .val (.int ((p1 &&& (2147483647 : Int32)) % (21 : Int32))), .val (.int ((p2 &&& (2147483647 : Int32)) % (21 : Int32))), .val (.int (0 : Int32))] [(.int ((p1 &&& (2147483647 : Int32)) % (21 : Int32))), (.ref b1)])) _
    refine X64.aaload hx (j := ((p1 &&& (2147483647 : Int32)) % (21 : Int32))) (v := (.ref v1)) (by rw [e64]; exact Ar65.1) (State.isArrayOf_alike hZ.alike Ar65.2.1) rfl Ar65.2.2 hin65 hat65 (g := (mkF m 179 #[.val (.int p1), .val (.int p2), .val (.ref b1), .val (.int ((p1 &&& (2147483647 : Int32)) % (21 : Int32))), .val (.int ((p2 &&& (2147483647 : Int32)) % (21 : Int32))), .val (.int (0 : Int32))] [(.int ((p1 &&& (2147483647 : Int32)) % (21 : Int32))), (.ref b1)])) rfl rfl (hb hby at_179) _ ?_
    show Steps p.tables e below (T64.setTop (mkF m 180 #[.val (.int p1), .val (.int p2), .val (.ref b1), .val (.int ((p1 &&& (2147483647 : Int32)) % (21 : Int32))), .val (.int ((p2 &&& (2147483647 : Int32)) % (21 : Int32))), .val (.int (0 : Int32))] [(.ref v1)])) _
    refine XS.aloadN X64.here hx rfl (hb hby at_180) rfl rfl ?_
    show Steps p.tables e below (T64.setTop (mkF m 181 #[.val (.int p1), .val (.int p2), .val (.ref b1), .val (.int ((p1 &&& (2147483647 : Int32)) % (21 : Int32))), .val (.int ((p2 &&& (2147483647 : Int32)) % (21 : Int32))), .val (.int (0 : Int32))] [(.ref b1), (.ref v1)])) _
    refine XS.iload X64.here hx rfl (hb hby at_181) rfl ?_
    show Steps p.tables e below (T64.setTop (mkF m 183 #[.val (.int p1), .val (.int p2), .val (.ref b1), .val (.int ((p1 &&& (2147483647 : Int32)) % (21 : Int32))), .val (.int ((p2 &&& (2147483647 : Int32)) % (21 : Int32))), .val (.int (0 : Int32))] [(.int ((p2 &&& (2147483647 : Int32)) % (21 : Int32))), (.ref b1), (.ref v1)])) _
    refine X64.aaload hx (j := ((p2 &&& (2147483647 : Int32)) % (21 : Int32))) (v := (.ref v2)) (by rw [e64]; exact Ar66.1) (State.isArrayOf_alike hZ.alike Ar66.2.1) rfl Ar66.2.2 hin66 hat66 (g := (mkF m 183 #[.val (.int p1), .val (.int p2), .val (.ref b1), .val (.int ((p1 &&& (2147483647 : Int32)) % (21 : Int32))), .val (.int ((p2 &&& (2147483647 : Int32)) % (21 : Int32))), .val (.int (0 : Int32))] [(.int ((p2 &&& (2147483647 : Int32)) % (21 : Int32))), (.ref b1), (.ref v1)])) rfl rfl (hb hby at_183) _ ?_
    show Steps p.tables e below (T64.setTop (mkF m 184 #[.val (.int p1), .val (.int p2), .val (.ref b1), .val (.int ((p1 &&& (2147483647 : Int32)) % (21 : Int32))), .val (.int ((p2 &&& (2147483647 : Int32)) % (21 : Int32))), .val (.int (0 : Int32))] [(.ref v2), (.ref v1)])) _
    refine st67.trans ?_
    show Steps p.tables e below (T67.setTop (mkF m 187 #[.val (.int p1), .val (.int p2), .val (.ref b1), .val (.int ((p1 &&& (2147483647 : Int32)) % (21 : Int32))), .val (.int ((p2 &&& (2147483647 : Int32)) % (21 : Int32))), .val (.int (0 : Int32))] [(.int (0 : Int32))])) _
    refine XS.iload X67.here hx rfl (hb hby at_187) rfl ?_
    show Steps p.tables e below (T67.setTop (mkF m 189 #[.val (.int p1), .val (.int p2), .val (.ref b1), .val (.int ((p1 &&& (2147483647 : Int32)) % (21 : Int32))), .val (.int ((p2 &&& (2147483647 : Int32)) % (21 : Int32))), .val (.int (0 : Int32))] [(.int (0 : Int32)), (.int (0 : Int32))])) _
    refine XS.icmpNo X67.here hx rfl (hb hby at_189) rfl (teq (rfl : (0 : Int32) = (0 : Int32))).2 ?_
    show Steps p.tables e below (T67.setTop (mkF m 192 #[.val (.int p1), .val (.int p2), .val (.ref b1), .val (.int ((p1 &&& (2147483647 : Int32)) % (21 : Int32))), .val (.int ((p2 &&& (2147483647 : Int32)) % (21 : Int32))), .val (.int (0 : Int32))] [])) _
    refine XS.iconst X67.here hx rfl (hb hby at_192) ?_
    show Steps p.tables e below (T67.setTop (mkF m 193 #[.val (.int p1), .val (.int p2), .val (.ref b1), .val (.int ((p1 &&& (2147483647 : Int32)) % (21 : Int32))), .val (.int ((p2 &&& (2147483647 : Int32)) % (21 : Int32))), .val (.int (0 : Int32))] [(.int (1 : Int32))])) _
    refine XS.goto X67.here hx rfl (pc0 := 193) (pc' := 197) rfl (hb hby at_193) (by decide) (by decide) ?_
    show Steps p.tables e below (T67.setTop (mkF m 197 #[.val (.int p1), .val (.int p2), .val (.ref b1), .val (.int ((p1 &&& (2147483647 : Int32)) % (21 : Int32))), .val (.int ((p2 &&& (2147483647 : Int32)) % (21 : Int32))), .val (.int (0 : Int32))] [(.int (1 : Int32))])) _
    exact retN X67 hx (t := .boolean) Bd.returns (by simp) (hb hby at_197) hr
  · exact ⟨rfl, N67⟩
set_option maxRecDepth 65536 in
set_option maxHeartbeats 40000000 in
theorem comes_1 {Post : Tables → Env → Array Value → State → Outcome → State → Prop} (hpost : ∀ tb e args s v u, (limb_1_1.after args s (.returned v) u = true ∧ limb_1_2.after args s (.returned v) u = true ∧ True) → FrameEnd s (.returned v) u (Jvm.fieldLocs frame_1_writes args s ++ Jvm.arrayLocs frame_1_arrays args s ++ Jvm.staticLocs frame_1_statics s) 16 128 → Post tb e args s (.returned v) u) :
    ArmFor flags0 classFile x code maxLocals ret World_1 tables_1 room_1 Calls_1 rest_1 Pre_1 Post := by
  intro l hfl _ _ p e ha hc hk s m args below hf hA hF happ hP
  obtain ⟨hcalls, hrest, hpre⟩ := hP
  obtain ⟨-, -, -, hnamed, -, -, -, hat⟩ := (Spec.applies_iff hf).mp happ
  obtain ⟨hg, hn⟩ := and_e (Cond.before_iff.mp (show (Jvm.Cond.and given_1 narrow_1).before args s = true from hpre))
  obtain ⟨g146, g147⟩ := and_e hg
  obtain ⟨g148, g149⟩ := and_e g147
  obtain ⟨w0, w1, rfl⟩ : ∃ w0 w1 : Value, args = #[w0, w1] := by
    have hs : args.size = 2 := by simpa [Cond.value, given_1] using g146
    obtain ⟨L⟩ := args
    match L, hs with
    | [w0, w1], _ => exact ⟨w0, w1, rfl⟩
  have hw := fun d (hd : d ∈ tables_1) => atoms_spec (ws := Jvm.Cond.code x code maxLocals ret :: tables_1) hat d (List.mem_cons_of_mem _ hd)
  have hfit : Fit s := fun {y c} hc i hi => by
    obtain ⟨ha, rfl⟩ := Array.getElem?_eq_some_iff.mp hc
    have q := List.all_eq_true.mp ((Array.all_eq_true_iff_forall_mem.mp hF) _ (Array.getElem_mem ha)) i (List.mem_range.mpr hi)
    simpa [Array.getElem?_eq_getElem hi] using q
  obtain ⟨i0, ei0⟩ := is_v g148
  obtain rfl : w0 = (.int i0) := Option.some.inj ei0
  obtain ⟨i1, ei1⟩ := is_v g149
  obtain rfl : w1 = (.int i1) := Option.some.inj ei1
  obtain ⟨n1, n2⟩ := and_e hn
  obtain ⟨n3, n4⟩ := and_e n2
  obtain ⟨n5, n6⟩ := and_e n4
  obtain ⟨n7, n8⟩ := and_e n6
  obtain ⟨n9, n10⟩ := and_e n8
  obtain ⟨n11, n12⟩ := and_e n10
  obtain ⟨n13, n14⟩ := and_e n12
  obtain ⟨n15, n16⟩ := and_e n14
  obtain ⟨n17, n18⟩ := and_e n16
  obtain ⟨n19, n20⟩ := and_e n18
  obtain ⟨n21, n22⟩ := and_e n20
  obtain ⟨n23, n24⟩ := and_e n22
  obtain ⟨n25, n26⟩ := and_e n24
  obtain ⟨n27, n28⟩ := and_e n26
  obtain ⟨n29, n30⟩ := and_e n28
  obtain ⟨n31, n32⟩ := and_e n30
  obtain ⟨n33, n34⟩ := and_e n32
  obtain ⟨n35, n36⟩ := and_e n34
  obtain ⟨n37, n38⟩ := and_e n36
  obtain ⟨n39, n40⟩ := and_e n38
  obtain ⟨n41, n42⟩ := and_e n40
  obtain ⟨n43, n44⟩ := and_e n42
  obtain ⟨n45, n46⟩ := and_e n44
  obtain ⟨n47, n48⟩ := and_e n46
  obtain ⟨n49, n50⟩ := and_e n48
  obtain ⟨n51, n52⟩ := and_e n50
  obtain ⟨n53, n54⟩ := and_e n52
  obtain ⟨n55, n56⟩ := and_e n54
  obtain ⟨n57, n58⟩ := and_e n56
  obtain ⟨n59, n60⟩ := and_e n58
  obtain ⟨n61, n62⟩ := and_e n60
  obtain ⟨n63, n64⟩ := and_e n62
  obtain ⟨n65, n66⟩ := and_e n64
  obtain ⟨n67, n68⟩ := and_e n66
  obtain ⟨n69, n70⟩ := and_e n68
  obtain ⟨n71, n72⟩ := and_e n70
  obtain ⟨n73, n74⟩ := and_e n72
  obtain ⟨n75, n76⟩ := and_e n74
  obtain ⟨n77, n78⟩ := and_e n76
  obtain ⟨n79, n80⟩ := and_e n78
  obtain ⟨n81, n82⟩ := and_e n80
  obtain ⟨w_AAA, ev83⟩ := exa_v n1
  have S_Rating_AAA : Sta s s.heap "com/example/facility_atlas/facilityatlas/Rating" "AAA" "Lcom/example/facility_atlas/facilityatlas/Rating;" (.ref w_AAA) := Sta.start ev83 (Or.inr ⟨(wd3 hw), (wd4 hw)⟩)
  have E_w_AAA : Exa s s.heap w_AAA "com/example/facility_atlas/facilityatlas/Rating" := Exa.start ev83 n1
  obtain ⟨w_AA_PLUS, ev84⟩ := exa_v n3
  have S_Rating_AA_PLUS : Sta s s.heap "com/example/facility_atlas/facilityatlas/Rating" "AA_PLUS" "Lcom/example/facility_atlas/facilityatlas/Rating;" (.ref w_AA_PLUS) := Sta.start ev84 (Or.inr ⟨(wd3 hw), (wd7 hw)⟩)
  have E_w_AA_PLUS : Exa s s.heap w_AA_PLUS "com/example/facility_atlas/facilityatlas/Rating" := Exa.start ev84 n3
  obtain ⟨w_AA, ev85⟩ := exa_v n5
  have S_Rating_AA : Sta s s.heap "com/example/facility_atlas/facilityatlas/Rating" "AA" "Lcom/example/facility_atlas/facilityatlas/Rating;" (.ref w_AA) := Sta.start ev85 (Or.inr ⟨(wd3 hw), (wd9 hw)⟩)
  have E_w_AA : Exa s s.heap w_AA "com/example/facility_atlas/facilityatlas/Rating" := Exa.start ev85 n5
  obtain ⟨w_AA_MINUS, ev86⟩ := exa_v n7
  have S_Rating_AA_MINUS : Sta s s.heap "com/example/facility_atlas/facilityatlas/Rating" "AA_MINUS" "Lcom/example/facility_atlas/facilityatlas/Rating;" (.ref w_AA_MINUS) := Sta.start ev86 (Or.inr ⟨(wd3 hw), (wd11 hw)⟩)
  have E_w_AA_MINUS : Exa s s.heap w_AA_MINUS "com/example/facility_atlas/facilityatlas/Rating" := Exa.start ev86 n7
  obtain ⟨w_A_PLUS, ev87⟩ := exa_v n9
  have S_Rating_A_PLUS : Sta s s.heap "com/example/facility_atlas/facilityatlas/Rating" "A_PLUS" "Lcom/example/facility_atlas/facilityatlas/Rating;" (.ref w_A_PLUS) := Sta.start ev87 (Or.inr ⟨(wd3 hw), (wd13 hw)⟩)
  have E_w_A_PLUS : Exa s s.heap w_A_PLUS "com/example/facility_atlas/facilityatlas/Rating" := Exa.start ev87 n9
  obtain ⟨w_A, ev88⟩ := exa_v n11
  have S_Rating_A : Sta s s.heap "com/example/facility_atlas/facilityatlas/Rating" "A" "Lcom/example/facility_atlas/facilityatlas/Rating;" (.ref w_A) := Sta.start ev88 (Or.inr ⟨(wd3 hw), (wd15 hw)⟩)
  have E_w_A : Exa s s.heap w_A "com/example/facility_atlas/facilityatlas/Rating" := Exa.start ev88 n11
  obtain ⟨w_A_MINUS, ev89⟩ := exa_v n13
  have S_Rating_A_MINUS : Sta s s.heap "com/example/facility_atlas/facilityatlas/Rating" "A_MINUS" "Lcom/example/facility_atlas/facilityatlas/Rating;" (.ref w_A_MINUS) := Sta.start ev89 (Or.inr ⟨(wd3 hw), (wd17 hw)⟩)
  have E_w_A_MINUS : Exa s s.heap w_A_MINUS "com/example/facility_atlas/facilityatlas/Rating" := Exa.start ev89 n13
  obtain ⟨w_BBB_PLUS, ev90⟩ := exa_v n15
  have S_Rating_BBB_PLUS : Sta s s.heap "com/example/facility_atlas/facilityatlas/Rating" "BBB_PLUS" "Lcom/example/facility_atlas/facilityatlas/Rating;" (.ref w_BBB_PLUS) := Sta.start ev90 (Or.inr ⟨(wd3 hw), (wd19 hw)⟩)
  have E_w_BBB_PLUS : Exa s s.heap w_BBB_PLUS "com/example/facility_atlas/facilityatlas/Rating" := Exa.start ev90 n15
  obtain ⟨w_BBB, ev91⟩ := exa_v n17
  have S_Rating_BBB : Sta s s.heap "com/example/facility_atlas/facilityatlas/Rating" "BBB" "Lcom/example/facility_atlas/facilityatlas/Rating;" (.ref w_BBB) := Sta.start ev91 (Or.inr ⟨(wd3 hw), (wd21 hw)⟩)
  have E_w_BBB : Exa s s.heap w_BBB "com/example/facility_atlas/facilityatlas/Rating" := Exa.start ev91 n17
  obtain ⟨w_BBB_MINUS, ev92⟩ := exa_v n19
  have S_Rating_BBB_MINUS : Sta s s.heap "com/example/facility_atlas/facilityatlas/Rating" "BBB_MINUS" "Lcom/example/facility_atlas/facilityatlas/Rating;" (.ref w_BBB_MINUS) := Sta.start ev92 (Or.inr ⟨(wd3 hw), (wd23 hw)⟩)
  have E_w_BBB_MINUS : Exa s s.heap w_BBB_MINUS "com/example/facility_atlas/facilityatlas/Rating" := Exa.start ev92 n19
  obtain ⟨w_BB_PLUS, ev93⟩ := exa_v n21
  have S_Rating_BB_PLUS : Sta s s.heap "com/example/facility_atlas/facilityatlas/Rating" "BB_PLUS" "Lcom/example/facility_atlas/facilityatlas/Rating;" (.ref w_BB_PLUS) := Sta.start ev93 (Or.inr ⟨(wd3 hw), (wd25 hw)⟩)
  have E_w_BB_PLUS : Exa s s.heap w_BB_PLUS "com/example/facility_atlas/facilityatlas/Rating" := Exa.start ev93 n21
  obtain ⟨w_BB, ev94⟩ := exa_v n23
  have S_Rating_BB : Sta s s.heap "com/example/facility_atlas/facilityatlas/Rating" "BB" "Lcom/example/facility_atlas/facilityatlas/Rating;" (.ref w_BB) := Sta.start ev94 (Or.inr ⟨(wd3 hw), (wd27 hw)⟩)
  have E_w_BB : Exa s s.heap w_BB "com/example/facility_atlas/facilityatlas/Rating" := Exa.start ev94 n23
  obtain ⟨w_BB_MINUS, ev95⟩ := exa_v n25
  have S_Rating_BB_MINUS : Sta s s.heap "com/example/facility_atlas/facilityatlas/Rating" "BB_MINUS" "Lcom/example/facility_atlas/facilityatlas/Rating;" (.ref w_BB_MINUS) := Sta.start ev95 (Or.inr ⟨(wd3 hw), (wd29 hw)⟩)
  have E_w_BB_MINUS : Exa s s.heap w_BB_MINUS "com/example/facility_atlas/facilityatlas/Rating" := Exa.start ev95 n25
  obtain ⟨w_B_PLUS, ev96⟩ := exa_v n27
  have S_Rating_B_PLUS : Sta s s.heap "com/example/facility_atlas/facilityatlas/Rating" "B_PLUS" "Lcom/example/facility_atlas/facilityatlas/Rating;" (.ref w_B_PLUS) := Sta.start ev96 (Or.inr ⟨(wd3 hw), (wd31 hw)⟩)
  have E_w_B_PLUS : Exa s s.heap w_B_PLUS "com/example/facility_atlas/facilityatlas/Rating" := Exa.start ev96 n27
  obtain ⟨w_B, ev97⟩ := exa_v n29
  have S_Rating_B : Sta s s.heap "com/example/facility_atlas/facilityatlas/Rating" "B" "Lcom/example/facility_atlas/facilityatlas/Rating;" (.ref w_B) := Sta.start ev97 (Or.inr ⟨(wd3 hw), (wd33 hw)⟩)
  have E_w_B : Exa s s.heap w_B "com/example/facility_atlas/facilityatlas/Rating" := Exa.start ev97 n29
  obtain ⟨w_B_MINUS, ev98⟩ := exa_v n31
  have S_Rating_B_MINUS : Sta s s.heap "com/example/facility_atlas/facilityatlas/Rating" "B_MINUS" "Lcom/example/facility_atlas/facilityatlas/Rating;" (.ref w_B_MINUS) := Sta.start ev98 (Or.inr ⟨(wd3 hw), (wd35 hw)⟩)
  have E_w_B_MINUS : Exa s s.heap w_B_MINUS "com/example/facility_atlas/facilityatlas/Rating" := Exa.start ev98 n31
  obtain ⟨w_CCC_PLUS, ev99⟩ := exa_v n33
  have S_Rating_CCC_PLUS : Sta s s.heap "com/example/facility_atlas/facilityatlas/Rating" "CCC_PLUS" "Lcom/example/facility_atlas/facilityatlas/Rating;" (.ref w_CCC_PLUS) := Sta.start ev99 (Or.inr ⟨(wd3 hw), (wd37 hw)⟩)
  have E_w_CCC_PLUS : Exa s s.heap w_CCC_PLUS "com/example/facility_atlas/facilityatlas/Rating" := Exa.start ev99 n33
  obtain ⟨w_CCC, ev100⟩ := exa_v n35
  have S_Rating_CCC : Sta s s.heap "com/example/facility_atlas/facilityatlas/Rating" "CCC" "Lcom/example/facility_atlas/facilityatlas/Rating;" (.ref w_CCC) := Sta.start ev100 (Or.inr ⟨(wd3 hw), (wd39 hw)⟩)
  have E_w_CCC : Exa s s.heap w_CCC "com/example/facility_atlas/facilityatlas/Rating" := Exa.start ev100 n35
  obtain ⟨w_CCC_MINUS, ev101⟩ := exa_v n37
  have S_Rating_CCC_MINUS : Sta s s.heap "com/example/facility_atlas/facilityatlas/Rating" "CCC_MINUS" "Lcom/example/facility_atlas/facilityatlas/Rating;" (.ref w_CCC_MINUS) := Sta.start ev101 (Or.inr ⟨(wd3 hw), (wd41 hw)⟩)
  have E_w_CCC_MINUS : Exa s s.heap w_CCC_MINUS "com/example/facility_atlas/facilityatlas/Rating" := Exa.start ev101 n37
  obtain ⟨w_CC, ev102⟩ := exa_v n39
  have S_Rating_CC : Sta s s.heap "com/example/facility_atlas/facilityatlas/Rating" "CC" "Lcom/example/facility_atlas/facilityatlas/Rating;" (.ref w_CC) := Sta.start ev102 (Or.inr ⟨(wd3 hw), (wd43 hw)⟩)
  have E_w_CC : Exa s s.heap w_CC "com/example/facility_atlas/facilityatlas/Rating" := Exa.start ev102 n39
  obtain ⟨w_C, ev103⟩ := exa_v n41
  have S_Rating_C : Sta s s.heap "com/example/facility_atlas/facilityatlas/Rating" "C" "Lcom/example/facility_atlas/facilityatlas/Rating;" (.ref w_C) := Sta.start ev103 (Or.inr ⟨(wd3 hw), (wd45 hw)⟩)
  have E_w_C : Exa s s.heap w_C "com/example/facility_atlas/facilityatlas/Rating" := Exa.start ev103 n41
  have ev104 := own_eqI n43
  have F_105 : Fld s s.heap w_AAA "java/lang/Enum" "ordinal" "I" (.int (0 : Int32)) := Fld.start ((fld_at ev83).symm.trans ev104)
  have ev106 := own_eqI n45
  have F_107 : Fld s s.heap w_AA_MINUS "java/lang/Enum" "ordinal" "I" (.int (3 : Int32)) := Fld.start ((fld_at ev86).symm.trans ev106)
  have ev108 := own_eqI n47
  have F_109 : Fld s s.heap w_B "java/lang/Enum" "ordinal" "I" (.int (14 : Int32)) := Fld.start ((fld_at ev97).symm.trans ev108)
  have ev110 := own_eqI n49
  have F_111 : Fld s s.heap w_AA_PLUS "java/lang/Enum" "ordinal" "I" (.int (1 : Int32)) := Fld.start ((fld_at ev84).symm.trans ev110)
  have ev112 := own_eqI n51
  have F_113 : Fld s s.heap w_A "java/lang/Enum" "ordinal" "I" (.int (5 : Int32)) := Fld.start ((fld_at ev88).symm.trans ev112)
  have ev114 := own_eqI n53
  have F_115 : Fld s s.heap w_BBB "java/lang/Enum" "ordinal" "I" (.int (8 : Int32)) := Fld.start ((fld_at ev91).symm.trans ev114)
  have ev116 := own_eqI n55
  have F_117 : Fld s s.heap w_AA "java/lang/Enum" "ordinal" "I" (.int (2 : Int32)) := Fld.start ((fld_at ev85).symm.trans ev116)
  have ev118 := own_eqI n57
  have F_119 : Fld s s.heap w_A_PLUS "java/lang/Enum" "ordinal" "I" (.int (4 : Int32)) := Fld.start ((fld_at ev87).symm.trans ev118)
  have ev120 := own_eqI n59
  have F_121 : Fld s s.heap w_B_PLUS "java/lang/Enum" "ordinal" "I" (.int (13 : Int32)) := Fld.start ((fld_at ev96).symm.trans ev120)
  have ev122 := own_eqI n61
  have F_123 : Fld s s.heap w_A_MINUS "java/lang/Enum" "ordinal" "I" (.int (6 : Int32)) := Fld.start ((fld_at ev89).symm.trans ev122)
  have ev124 := own_eqI n63
  have F_125 : Fld s s.heap w_BB_PLUS "java/lang/Enum" "ordinal" "I" (.int (10 : Int32)) := Fld.start ((fld_at ev93).symm.trans ev124)
  have ev126 := own_eqI n65
  have F_127 : Fld s s.heap w_BB_MINUS "java/lang/Enum" "ordinal" "I" (.int (12 : Int32)) := Fld.start ((fld_at ev95).symm.trans ev126)
  have ev128 := own_eqI n67
  have F_129 : Fld s s.heap w_B_MINUS "java/lang/Enum" "ordinal" "I" (.int (15 : Int32)) := Fld.start ((fld_at ev98).symm.trans ev128)
  have ev130 := own_eqI n69
  have F_131 : Fld s s.heap w_CC "java/lang/Enum" "ordinal" "I" (.int (19 : Int32)) := Fld.start ((fld_at ev102).symm.trans ev130)
  have ev132 := own_eqI n71
  have F_133 : Fld s s.heap w_CCC_MINUS "java/lang/Enum" "ordinal" "I" (.int (18 : Int32)) := Fld.start ((fld_at ev101).symm.trans ev132)
  have ev134 := own_eqI n73
  have F_135 : Fld s s.heap w_BB "java/lang/Enum" "ordinal" "I" (.int (11 : Int32)) := Fld.start ((fld_at ev94).symm.trans ev134)
  have ev136 := own_eqI n75
  have F_137 : Fld s s.heap w_C "java/lang/Enum" "ordinal" "I" (.int (20 : Int32)) := Fld.start ((fld_at ev103).symm.trans ev136)
  have ev138 := own_eqI n77
  have F_139 : Fld s s.heap w_BBB_PLUS "java/lang/Enum" "ordinal" "I" (.int (7 : Int32)) := Fld.start ((fld_at ev90).symm.trans ev138)
  have ev140 := own_eqI n79
  have F_141 : Fld s s.heap w_BBB_MINUS "java/lang/Enum" "ordinal" "I" (.int (9 : Int32)) := Fld.start ((fld_at ev92).symm.trans ev140)
  have ev142 := own_eqI n81
  have F_143 : Fld s s.heap w_CCC_PLUS "java/lang/Enum" "ordinal" "I" (.int (16 : Int32)) := Fld.start ((fld_at ev99).symm.trans ev142)
  have ev144 := own_eqI n82
  have F_145 : Fld s s.heap w_CCC "java/lang/Enum" "ordinal" "I" (.int (17 : Int32)) := Fld.start ((fld_at ev100).symm.trans ev144)
  obtain ⟨v1, selv1, E_v1, F_v1⟩ : ∃ w, ([(.ref w_AAA), (.ref w_AA_PLUS), (.ref w_AA), (.ref w_AA_MINUS), (.ref w_A_PLUS), (.ref w_A), (.ref w_A_MINUS), (.ref w_BBB_PLUS), (.ref w_BBB), (.ref w_BBB_MINUS), (.ref w_BB_PLUS), (.ref w_BB), (.ref w_BB_MINUS), (.ref w_B_PLUS), (.ref w_B), (.ref w_B_MINUS), (.ref w_CCC_PLUS), (.ref w_CCC), (.ref w_CCC_MINUS), (.ref w_CC), (.ref w_C)] : List Value).getD (((i0 &&& (2147483647 : Int32)) % (21 : Int32))).toNatClampNeg .null = .ref w ∧ Exa s s.heap w "com/example/facility_atlas/facilityatlas/Rating" ∧ Fld s s.heap w "java/lang/Enum" "ordinal" "I" (.int ((i0 &&& (2147483647 : Int32)) % (21 : Int32))) := by
    rcases own_mod21 i0 with h | h | h | h | h | h | h | h | h | h | h | h | h | h | h | h | h | h | h | h | h
    · exact ⟨w_AAA, (by rw [h]; rfl), E_w_AAA, by rw [h]; exact F_105⟩
    · exact ⟨w_AA_PLUS, (by rw [h]; rfl), E_w_AA_PLUS, by rw [h]; exact F_111⟩
    · exact ⟨w_AA, (by rw [h]; rfl), E_w_AA, by rw [h]; exact F_117⟩
    · exact ⟨w_AA_MINUS, (by rw [h]; rfl), E_w_AA_MINUS, by rw [h]; exact F_107⟩
    · exact ⟨w_A_PLUS, (by rw [h]; rfl), E_w_A_PLUS, by rw [h]; exact F_119⟩
    · exact ⟨w_A, (by rw [h]; rfl), E_w_A, by rw [h]; exact F_113⟩
    · exact ⟨w_A_MINUS, (by rw [h]; rfl), E_w_A_MINUS, by rw [h]; exact F_123⟩
    · exact ⟨w_BBB_PLUS, (by rw [h]; rfl), E_w_BBB_PLUS, by rw [h]; exact F_139⟩
    · exact ⟨w_BBB, (by rw [h]; rfl), E_w_BBB, by rw [h]; exact F_115⟩
    · exact ⟨w_BBB_MINUS, (by rw [h]; rfl), E_w_BBB_MINUS, by rw [h]; exact F_141⟩
    · exact ⟨w_BB_PLUS, (by rw [h]; rfl), E_w_BB_PLUS, by rw [h]; exact F_125⟩
    · exact ⟨w_BB, (by rw [h]; rfl), E_w_BB, by rw [h]; exact F_135⟩
    · exact ⟨w_BB_MINUS, (by rw [h]; rfl), E_w_BB_MINUS, by rw [h]; exact F_127⟩
    · exact ⟨w_B_PLUS, (by rw [h]; rfl), E_w_B_PLUS, by rw [h]; exact F_121⟩
    · exact ⟨w_B, (by rw [h]; rfl), E_w_B, by rw [h]; exact F_109⟩
    · exact ⟨w_B_MINUS, (by rw [h]; rfl), E_w_B_MINUS, by rw [h]; exact F_129⟩
    · exact ⟨w_CCC_PLUS, (by rw [h]; rfl), E_w_CCC_PLUS, by rw [h]; exact F_143⟩
    · exact ⟨w_CCC, (by rw [h]; rfl), E_w_CCC, by rw [h]; exact F_145⟩
    · exact ⟨w_CCC_MINUS, (by rw [h]; rfl), E_w_CCC_MINUS, by rw [h]; exact F_133⟩
    · exact ⟨w_CC, (by rw [h]; rfl), E_w_CC, by rw [h]; exact F_131⟩
    · exact ⟨w_C, (by rw [h]; rfl), E_w_C, by rw [h]; exact F_137⟩
  obtain ⟨v2, selv2, E_v2, F_v2⟩ : ∃ w, ([(.ref w_AAA), (.ref w_AA_PLUS), (.ref w_AA), (.ref w_AA_MINUS), (.ref w_A_PLUS), (.ref w_A), (.ref w_A_MINUS), (.ref w_BBB_PLUS), (.ref w_BBB), (.ref w_BBB_MINUS), (.ref w_BB_PLUS), (.ref w_BB), (.ref w_BB_MINUS), (.ref w_B_PLUS), (.ref w_B), (.ref w_B_MINUS), (.ref w_CCC_PLUS), (.ref w_CCC), (.ref w_CCC_MINUS), (.ref w_CC), (.ref w_C)] : List Value).getD (((i1 &&& (2147483647 : Int32)) % (21 : Int32))).toNatClampNeg .null = .ref w ∧ Exa s s.heap w "com/example/facility_atlas/facilityatlas/Rating" ∧ Fld s s.heap w "java/lang/Enum" "ordinal" "I" (.int ((i1 &&& (2147483647 : Int32)) % (21 : Int32))) := by
    rcases own_mod21 i1 with h | h | h | h | h | h | h | h | h | h | h | h | h | h | h | h | h | h | h | h | h
    · exact ⟨w_AAA, (by rw [h]; rfl), E_w_AAA, by rw [h]; exact F_105⟩
    · exact ⟨w_AA_PLUS, (by rw [h]; rfl), E_w_AA_PLUS, by rw [h]; exact F_111⟩
    · exact ⟨w_AA, (by rw [h]; rfl), E_w_AA, by rw [h]; exact F_117⟩
    · exact ⟨w_AA_MINUS, (by rw [h]; rfl), E_w_AA_MINUS, by rw [h]; exact F_107⟩
    · exact ⟨w_A_PLUS, (by rw [h]; rfl), E_w_A_PLUS, by rw [h]; exact F_119⟩
    · exact ⟨w_A, (by rw [h]; rfl), E_w_A, by rw [h]; exact F_113⟩
    · exact ⟨w_A_MINUS, (by rw [h]; rfl), E_w_A_MINUS, by rw [h]; exact F_123⟩
    · exact ⟨w_BBB_PLUS, (by rw [h]; rfl), E_w_BBB_PLUS, by rw [h]; exact F_139⟩
    · exact ⟨w_BBB, (by rw [h]; rfl), E_w_BBB, by rw [h]; exact F_115⟩
    · exact ⟨w_BBB_MINUS, (by rw [h]; rfl), E_w_BBB_MINUS, by rw [h]; exact F_141⟩
    · exact ⟨w_BB_PLUS, (by rw [h]; rfl), E_w_BB_PLUS, by rw [h]; exact F_125⟩
    · exact ⟨w_BB, (by rw [h]; rfl), E_w_BB, by rw [h]; exact F_135⟩
    · exact ⟨w_BB_MINUS, (by rw [h]; rfl), E_w_BB_MINUS, by rw [h]; exact F_127⟩
    · exact ⟨w_B_PLUS, (by rw [h]; rfl), E_w_B_PLUS, by rw [h]; exact F_121⟩
    · exact ⟨w_B, (by rw [h]; rfl), E_w_B, by rw [h]; exact F_109⟩
    · exact ⟨w_B_MINUS, (by rw [h]; rfl), E_w_B_MINUS, by rw [h]; exact F_129⟩
    · exact ⟨w_CCC_PLUS, (by rw [h]; rfl), E_w_CCC_PLUS, by rw [h]; exact F_143⟩
    · exact ⟨w_CCC, (by rw [h]; rfl), E_w_CCC, by rw [h]; exact F_145⟩
    · exact ⟨w_CCC_MINUS, (by rw [h]; rfl), E_w_CCC_MINUS, by rw [h]; exact F_133⟩
    · exact ⟨w_CC, (by rw [h]; rfl), E_w_CC, by rw [h]; exact F_131⟩
    · exact ⟨w_C, (by rw [h]; rfl), E_w_C, by rw [h]; exact F_137⟩
  have b1 := own_b21 i0
  have b2 := own_b21 i1
  have R : MetFree l x (head1 (Jvm.Cond.code x code maxLocals ret :: tables_1) room_1) (fun a U => a = #[(.int i0), (.int i1)] ∧ s.Warmed39 U.vm ∧ U.heap = s.heap) (fun _ _ _ _ _ => True) (fun _ U o U' => ∃ v L, o = .returned v ∧ Q0 s.heap.size v L ∧ FrameEnd U o U' L 16 128) := by
    by_cases hle : ((i1 &&& (2147483647 : Int32)) % (21 : Int32)) < ((i0 &&& (2147483647 : Int32)) % (21 : Int32))
    · exact rm0_ge l s _ hw tables_1 i0 i1 w_AAA w_AA_PLUS w_AA w_AA_MINUS w_A_PLUS w_A w_A_MINUS w_BBB_PLUS w_BBB w_BBB_MINUS w_BB_PLUS w_BB w_BB_MINUS w_B_PLUS w_B w_B_MINUS w_CCC_PLUS w_CCC w_CCC_MINUS w_CC w_C v1 v2 s.heap s.heap.size (Old.start s) S_Rating_AAA E_w_AAA S_Rating_AA_PLUS E_w_AA_PLUS S_Rating_AA E_w_AA S_Rating_AA_MINUS E_w_AA_MINUS S_Rating_A_PLUS E_w_A_PLUS S_Rating_A E_w_A S_Rating_A_MINUS E_w_A_MINUS S_Rating_BBB_PLUS E_w_BBB_PLUS S_Rating_BBB E_w_BBB S_Rating_BBB_MINUS E_w_BBB_MINUS S_Rating_BB_PLUS E_w_BB_PLUS S_Rating_BB E_w_BB S_Rating_BB_MINUS E_w_BB_MINUS S_Rating_B_PLUS E_w_B_PLUS S_Rating_B E_w_B S_Rating_B_MINUS E_w_B_MINUS S_Rating_CCC_PLUS E_w_CCC_PLUS S_Rating_CCC E_w_CCC S_Rating_CCC_MINUS E_w_CCC_MINUS S_Rating_CC E_w_CC S_Rating_C E_w_C hle b1.1 b1.2 selv1 b2.1 b2.2 selv2 F_v1 E_v1 F_v2 E_v2
    · exact rm0_lt l s _ hw tables_1 i0 i1 w_AAA w_AA_PLUS w_AA w_AA_MINUS w_A_PLUS w_A w_A_MINUS w_BBB_PLUS w_BBB w_BBB_MINUS w_BB_PLUS w_BB w_BB_MINUS w_B_PLUS w_B w_B_MINUS w_CCC_PLUS w_CCC w_CCC_MINUS w_CC w_C v1 v2 s.heap s.heap.size (Old.start s) S_Rating_AAA E_w_AAA S_Rating_AA_PLUS E_w_AA_PLUS S_Rating_AA E_w_AA S_Rating_AA_MINUS E_w_AA_MINUS S_Rating_A_PLUS E_w_A_PLUS S_Rating_A E_w_A S_Rating_A_MINUS E_w_A_MINUS S_Rating_BBB_PLUS E_w_BBB_PLUS S_Rating_BBB E_w_BBB S_Rating_BBB_MINUS E_w_BBB_MINUS S_Rating_BB_PLUS E_w_BB_PLUS S_Rating_BB E_w_BB S_Rating_BB_MINUS E_w_BB_MINUS S_Rating_B_PLUS E_w_B_PLUS S_Rating_B E_w_B S_Rating_B_MINUS E_w_B_MINUS S_Rating_CCC_PLUS E_w_CCC_PLUS S_Rating_CCC E_w_CCC S_Rating_CCC_MINUS E_w_CCC_MINUS S_Rating_CC E_w_CC S_Rating_C E_w_C hle b1.1 b1.2 selv1 b2.1 b2.2 selv2 F_v1 E_v1 F_v2 E_v2
  obtain ⟨n, o, h1, h2, h3, _, L, rfl, ⟨rfl, N⟩, hq⟩ := R p e ha hc hk s m _ below hf ((Spec.applies_iff_loose hf).mp happ).1 ⟨rfl, State.Warmed39.refl s, rfl⟩ trivial
  refine ⟨n, _, h1, h2, h3, hpost _ _ _ _ _ _ ⟨Cond.after_iff.mpr rfl, Cond.after_iff.mpr (eq_i res_at (Term.int_eval (1)) rfl), trivial⟩ ⟨hq.1, hq.2.1, (hq.2.2.sift fun y hy => Or.inr (N y hy)).mono (by decide) (by decide)⟩⟩
theorem main_1_1 : Claimed_1_1 := comes_1 fun _ _ _ _ _ _ h hF => ⟨h.1, hF⟩
theorem main_1_2 : Claimed_1_2 := comes_1 fun _ _ _ _ _ _ h hF => ⟨h.2.1, hF⟩
end Jvm.Pilot.@@N@@
namespace Jvm.Pilot.@@N@@
open Jvm Jvm.ClassFile Sem Op Lib Jvm.Free Jvm.Stand Jvm.Pilot.@@N@@.Jvm.D
/-! MADE BY PROGRAM (witnessworld.py) out of the Statement's table words and the real class files: 13 classes; the members and pool entries that the words name. The judged class is class 1, her method 1. -/
namespace start1
open Jvm.ClassFile
def u (s : String) : CpInfo := .utf8 (stringToUtf16 s)
/-- a pool by its gaps: so many unusable entries, then the entry; so many at the end -/
def gap : Nat → List CpInfo → List CpInfo
  | 0, r => r
  | n + 1, r => .unusable :: gap n r
def poolList (es : List (Nat × CpInfo)) (last : Nat) : List CpInfo := es.foldr (fun e r => gap e.1 (e.2 :: r)) (gap last [])
def pool (es : List (Nat × CpInfo)) (last : Nat) : Array CpInfo := ⟨poolList es last⟩
def fileOf (pool : Array CpInfo) (this : Nat) (attrs : Array Attribute := #[]) (ms : Array MethodInfo := #[]) (fl : Nat := 33) (sup : Nat := 0) (ifs : Array Nat := #[]) (fds : Array FieldInfo := #[]) : ClassFile where
  minorVersion := 0
  majorVersion := 65
  constantPool := pool
  accessFlags := fl
  thisClass := this
  superClass := sup
  interfaces := ifs
  fields := fds
  methods := ms
  attributes := attrs
def plain (name : String) (sup : Option ClassId) : Class where
  name := name
  kind := .ordinary
  loader := none
  accessFlags := 33
  super := sup
  interfaces := #[]
  cf := none
  fields := #[]
  methods := #[]
  instanceTypes := #[]
  staticTypes := #[]
  resolved := #[]
  callSites := []
  init := .initialized
  statics := none
  mirror := none

def pool0 : Array CpInfo := pool [(5, u "<init>"), (0, u "()V"), (1, .class_ 10), (1, u "java/lang/Object")] 113

def k0m0 : Method := { name := "<init>", desc := "()V", sig := { parameters := [], returnType := none }, accessFlags := 1, code := none }
/-- java/lang/Object -/
def k0 : Class := { plain "java/lang/Object" none with
  accessFlags := 33
  interfaces := #[]
  cf := some (fileOf pool0 8 #[] #[{ accessFlags := 1, nameIndex := 5, descriptorIndex := 6, attributes := #[] }] 33 0 #[] #[])
  fields := #[]
  methods := #[k0m0]
  instanceTypes := #[]
  staticTypes := #[]
  resolved := Array.replicate 124 none
  statics := none }

def pool1 : Array CpInfo := pool [(2, .class_ 4), (1, u "java/lang/Object"), (0, u "<init>"), (0, u "()V"), (0, .class_ 8), (0, u "com/example/facility_atlas/facilityatlas/Rating"), (0, .fieldref 7 10), (0, .nameAndType 11 12), (0, u "AAA"), (0, u "Lcom/example/facility_atlas/facilityatlas/Rating;"), (0, .fieldref 7 14), (0, .nameAndType 15 12), (0, u "AA_PLUS"), (0, .fieldref 7 17), (0, .nameAndType 18 12), (0, u "AA"), (0, .fieldref 7 20), (0, .nameAndType 21 12), (0, u "AA_MINUS"), (0, .fieldref 7 23), (0, .nameAndType 24 12), (0, u "A_PLUS"), (0, .fieldref 7 26), (0, .nameAndType 27 12), (0, u "A"), (0, .fieldref 7 29), (0, .nameAndType 30 12), (0, u "A_MINUS"), (0, .fieldref 7 32), (0, .nameAndType 33 12), (0, u "BBB_PLUS"), (0, .fieldref 7 35), (0, .nameAndType 36 12), (0, u "BBB"), (0, .fieldref 7 38), (0, .nameAndType 39 12), (0, u "BBB_MINUS"), (0, .fieldref 7 41), (0, .nameAndType 42 12), (0, u "BB_PLUS"), (0, .fieldref 7 44), (0, .nameAndType 45 12), (0, u "BB"), (0, .fieldref 7 47), (0, .nameAndType 48 12), (0, u "BB_MINUS"), (0, .fieldref 7 50), (0, .nameAndType 51 12), (0, u "B_PLUS"), (0, .fieldref 7 53), (0, .nameAndType 54 12), (0, u "B"), (0, .fieldref 7 56), (0, .nameAndType 57 12), (0, u "B_MINUS"), (0, .fieldref 7 59), (0, .nameAndType 60 12), (0, u "CCC_PLUS"), (0, .fieldref 7 62), (0, .nameAndType 63 12), (0, u "CCC"), (0, .fieldref 7 65), (0, .nameAndType 66 12), (0, u "CCC_MINUS"), (0, .fieldref 7 68), (0, .nameAndType 69 12), (0, u "CC"), (0, .fieldref 7 71), (0, .nameAndType 72 12), (0, u "C"), (0, .integer 2147483647), (0, .methodref 7 75), (0, .nameAndType 76 77), (0, u "isAtOrAbove"), (0, u "(Lcom/example/facility_atlas/facilityatlas/Rating;)Z"), (0, .class_ 79), (0, u "com/example/facility_atlas/facilityatlas/RatingIsAtOrAbovePinLaw"), (2, u "law"), (0, u "(II)Z")] 5

def k1m0 : Method := { name := "<init>", desc := "()V", sig := { parameters := [], returnType := none }, accessFlags := 1, code := none }
def k1c1 : Code := { maxStack := 4, maxLocals := 6, code := code, exceptionTable := #[], attributes := #[] }
def k1m1 : Method := { name := "law", desc := "(II)Z", sig := { parameters := [.int, .int], returnType := some .boolean }, accessFlags := 9, code := some k1c1 }
/-- com/example/facility_atlas/facilityatlas/RatingIsAtOrAbovePinLaw -/
def k1 : Class := { plain "com/example/facility_atlas/facilityatlas/RatingIsAtOrAbovePinLaw" (some 0) with
  accessFlags := 49
  interfaces := #[]
  cf := some (fileOf pool1 78 #[] #[{ accessFlags := 1, nameIndex := 5, descriptorIndex := 6, attributes := #[] }, { accessFlags := 9, nameIndex := 82, descriptorIndex := 83, attributes := #[] }] 49 2 #[] #[])
  fields := #[]
  methods := #[k1m0, k1m1]
  instanceTypes := #[]
  staticTypes := #[]
  resolved := Array.replicate 89 none
  statics := none }

def pool2 : Array CpInfo := pool [(1, .class_ 2), (0, u "java/lang/constant/Constable"), (0, .class_ 4), (0, u "java/lang/Object")] 6

/-- java/lang/constant/Constable -/
def k2 : Class := { plain "java/lang/constant/Constable" (some 0) with
  accessFlags := 1537
  interfaces := #[]
  cf := some (fileOf pool2 1 #[] #[] 1537 3 #[] #[])
  fields := #[]
  methods := #[]
  instanceTypes := #[]
  staticTypes := #[]
  resolved := Array.replicate 11 none
  statics := none }

def pool3 : Array CpInfo := pool [(1, .class_ 2), (0, u "java/lang/Comparable"), (0, .class_ 4), (0, u "java/lang/Object")] 7

/-- java/lang/Comparable -/
def k3 : Class := { plain "java/lang/Comparable" (some 0) with
  accessFlags := 1537
  interfaces := #[]
  cf := some (fileOf pool3 1 #[] #[] 1537 3 #[] #[])
  fields := #[]
  methods := #[]
  instanceTypes := #[]
  staticTypes := #[]
  resolved := Array.replicate 12 none
  statics := none }

def pool4 : Array CpInfo := pool [(1, .class_ 2), (0, u "java/io/Serializable"), (0, .class_ 4), (0, u "java/lang/Object")] 2

/-- java/io/Serializable -/
def k4 : Class := { plain "java/io/Serializable" (some 0) with
  accessFlags := 1537
  interfaces := #[]
  cf := some (fileOf pool4 1 #[] #[] 1537 3 #[] #[])
  fields := #[]
  methods := #[]
  instanceTypes := #[]
  staticTypes := #[]
  resolved := Array.replicate 7 none
  statics := none }

def pool5 : Array CpInfo := pool [(2, .class_ 4), (1, u "java/lang/Enum"), (0, u "name"), (0, u "Ljava/lang/String;"), (0, .fieldref 2 8), (0, .nameAndType 9 10), (0, u "ordinal"), (0, u "I"), (1, .class_ 14), (1, u "java/lang/Object"), (4, u "hash"), (86, .class_ 108), (1, u "java/lang/Enum$EnumDesc"), (2, .class_ 112), (0, u "java/lang/constant/Constable"), (0, .class_ 114), (0, u "java/lang/Comparable"), (0, .class_ 116), (0, u "java/io/Serializable"), (9, u "()I")] 77

def k5c0 : Code := { maxStack := 1, maxLocals := 1, code := jdk_37_method_2_code, exceptionTable := #[], attributes := #[] }
def k5m0 : Method := { name := "ordinal", desc := "()I", sig := { parameters := [], returnType := some .int }, accessFlags := 17, code := some k5c0 }
/-- java/lang/Enum -/
def k5 : Class := { plain "java/lang/Enum" (some 0) with
  accessFlags := 1057
  interfaces := #[2, 3, 4]
  cf := some (fileOf pool5 2 #[.nestMembers #[106]] #[{ accessFlags := 17, nameIndex := 9, descriptorIndex := 126, attributes := #[] }] 1057 12 #[111, 113, 115] #[{ accessFlags := 18, nameIndex := 5, descriptorIndex := 6, attributes := #[] }, { accessFlags := 18, nameIndex := 9, descriptorIndex := 10, attributes := #[] }, { accessFlags := 2, nameIndex := 19, descriptorIndex := 10, attributes := #[] }])
  fields := #[{ name := "name", type := (.object "java/lang/String"), accessFlags := 18, slot := 0, constantValue := 0 }, { name := "ordinal", type := .int, accessFlags := 18, slot := 1, constantValue := 0 }, { name := "hash", type := .int, accessFlags := 2, slot := 2, constantValue := 0 }]
  methods := #[k5m0]
  instanceTypes := #[(.object "java/lang/String"), .int, .int]
  staticTypes := #[]
  resolved := Array.replicate 204 none
  statics := none }

def pool6 : Array CpInfo := pool [(1, .class_ 2), (0, u "com/example/facility_atlas/facilityatlas/Rating"), (2, u "AAA"), (0, u "Lcom/example/facility_atlas/facilityatlas/Rating;"), (2, u "AA_PLUS"), (2, u "AA"), (2, u "AA_MINUS"), (2, u "A_PLUS"), (2, u "A"), (2, u "A_MINUS"), (2, u "BBB_PLUS"), (2, u "BBB"), (2, u "BBB_MINUS"), (2, u "BB_PLUS"), (2, u "BB"), (2, u "BB_MINUS"), (2, u "B_PLUS"), (2, u "B"), (2, u "B_MINUS"), (2, u "CCC_PLUS"), (2, u "CCC"), (2, u "CCC_MINUS"), (2, u "CC"), (2, u "C"), (2, u "$VALUES"), (0, u "[Lcom/example/facility_atlas/facilityatlas/Rating;"), (6, .class_ 79), (1, u "java/lang/Enum"), (8, u "standardAndPoors"), (0, u "Ljava/lang/String;"), (2, u "moodys"), (1, .class_ 96), (1, u "com/example/facility_atlas/facilityatlas/Rating$1"), (4, .nameAndType 103 104), (1, u "ordinal"), (0, u "()I"), (5, .methodref 1 101), (124, u "isAtOrAbove"), (0, u "(Lcom/example/facility_atlas/facilityatlas/Rating;)Z")] 25

def k6c0 : Code := { maxStack := 2, maxLocals := 2, code := prog_47_method_5_code, exceptionTable := #[], attributes := #[] }
def k6m0 : Method := { name := "isAtOrAbove", desc := "(Lcom/example/facility_atlas/facilityatlas/Rating;)Z", sig := { parameters := [(.object "com/example/facility_atlas/facilityatlas/Rating")], returnType := some .boolean }, accessFlags := 1, code := some k6c0 }
/-- com/example/facility_atlas/facilityatlas/Rating -/
def k6 : Class := { plain "com/example/facility_atlas/facilityatlas/Rating" (some 5) with
  accessFlags := 16433
  interfaces := #[]
  cf := some (fileOf pool6 1 #[.nestMembers #[94]] #[{ accessFlags := 1, nameIndex := 235, descriptorIndex := 236, attributes := #[] }] 16433 77 #[] #[{ accessFlags := 16409, nameIndex := 5, descriptorIndex := 6, attributes := #[] }, { accessFlags := 16409, nameIndex := 9, descriptorIndex := 6, attributes := #[] }, { accessFlags := 16409, nameIndex := 12, descriptorIndex := 6, attributes := #[] }, { accessFlags := 16409, nameIndex := 15, descriptorIndex := 6, attributes := #[] }, { accessFlags := 16409, nameIndex := 18, descriptorIndex := 6, attributes := #[] }, { accessFlags := 16409, nameIndex := 21, descriptorIndex := 6, attributes := #[] }, { accessFlags := 16409, nameIndex := 24, descriptorIndex := 6, attributes := #[] }, { accessFlags := 16409, nameIndex := 27, descriptorIndex := 6, attributes := #[] }, { accessFlags := 16409, nameIndex := 30, descriptorIndex := 6, attributes := #[] }, { accessFlags := 16409, nameIndex := 33, descriptorIndex := 6, attributes := #[] }, { accessFlags := 16409, nameIndex := 36, descriptorIndex := 6, attributes := #[] }, { accessFlags := 16409, nameIndex := 39, descriptorIndex := 6, attributes := #[] }, { accessFlags := 16409, nameIndex := 42, descriptorIndex := 6, attributes := #[] }, { accessFlags := 16409, nameIndex := 45, descriptorIndex := 6, attributes := #[] }, { accessFlags := 16409, nameIndex := 48, descriptorIndex := 6, attributes := #[] }, { accessFlags := 16409, nameIndex := 51, descriptorIndex := 6, attributes := #[] }, { accessFlags := 16409, nameIndex := 54, descriptorIndex := 6, attributes := #[] }, { accessFlags := 16409, nameIndex := 57, descriptorIndex := 6, attributes := #[] }, { accessFlags := 16409, nameIndex := 60, descriptorIndex := 6, attributes := #[] }, { accessFlags := 16409, nameIndex := 63, descriptorIndex := 6, attributes := #[] }, { accessFlags := 16409, nameIndex := 66, descriptorIndex := 6, attributes := #[] }, { accessFlags := 18, nameIndex := 88, descriptorIndex := 89, attributes := #[] }, { accessFlags := 18, nameIndex := 92, descriptorIndex := 89, attributes := #[] }, { accessFlags := 4122, nameIndex := 69, descriptorIndex := 70, attributes := #[] }])
  fields := #[{ name := "AAA", type := (.object "com/example/facility_atlas/facilityatlas/Rating"), accessFlags := 16409, slot := 0, constantValue := 0 }, { name := "AA_PLUS", type := (.object "com/example/facility_atlas/facilityatlas/Rating"), accessFlags := 16409, slot := 1, constantValue := 0 }, { name := "AA", type := (.object "com/example/facility_atlas/facilityatlas/Rating"), accessFlags := 16409, slot := 2, constantValue := 0 }, { name := "AA_MINUS", type := (.object "com/example/facility_atlas/facilityatlas/Rating"), accessFlags := 16409, slot := 3, constantValue := 0 }, { name := "A_PLUS", type := (.object "com/example/facility_atlas/facilityatlas/Rating"), accessFlags := 16409, slot := 4, constantValue := 0 }, { name := "A", type := (.object "com/example/facility_atlas/facilityatlas/Rating"), accessFlags := 16409, slot := 5, constantValue := 0 }, { name := "A_MINUS", type := (.object "com/example/facility_atlas/facilityatlas/Rating"), accessFlags := 16409, slot := 6, constantValue := 0 }, { name := "BBB_PLUS", type := (.object "com/example/facility_atlas/facilityatlas/Rating"), accessFlags := 16409, slot := 7, constantValue := 0 }, { name := "BBB", type := (.object "com/example/facility_atlas/facilityatlas/Rating"), accessFlags := 16409, slot := 8, constantValue := 0 }, { name := "BBB_MINUS", type := (.object "com/example/facility_atlas/facilityatlas/Rating"), accessFlags := 16409, slot := 9, constantValue := 0 }, { name := "BB_PLUS", type := (.object "com/example/facility_atlas/facilityatlas/Rating"), accessFlags := 16409, slot := 10, constantValue := 0 }, { name := "BB", type := (.object "com/example/facility_atlas/facilityatlas/Rating"), accessFlags := 16409, slot := 11, constantValue := 0 }, { name := "BB_MINUS", type := (.object "com/example/facility_atlas/facilityatlas/Rating"), accessFlags := 16409, slot := 12, constantValue := 0 }, { name := "B_PLUS", type := (.object "com/example/facility_atlas/facilityatlas/Rating"), accessFlags := 16409, slot := 13, constantValue := 0 }, { name := "B", type := (.object "com/example/facility_atlas/facilityatlas/Rating"), accessFlags := 16409, slot := 14, constantValue := 0 }, { name := "B_MINUS", type := (.object "com/example/facility_atlas/facilityatlas/Rating"), accessFlags := 16409, slot := 15, constantValue := 0 }, { name := "CCC_PLUS", type := (.object "com/example/facility_atlas/facilityatlas/Rating"), accessFlags := 16409, slot := 16, constantValue := 0 }, { name := "CCC", type := (.object "com/example/facility_atlas/facilityatlas/Rating"), accessFlags := 16409, slot := 17, constantValue := 0 }, { name := "CCC_MINUS", type := (.object "com/example/facility_atlas/facilityatlas/Rating"), accessFlags := 16409, slot := 18, constantValue := 0 }, { name := "CC", type := (.object "com/example/facility_atlas/facilityatlas/Rating"), accessFlags := 16409, slot := 19, constantValue := 0 }, { name := "C", type := (.object "com/example/facility_atlas/facilityatlas/Rating"), accessFlags := 16409, slot := 20, constantValue := 0 }, { name := "standardAndPoors", type := (.object "java/lang/String"), accessFlags := 18, slot := 3, constantValue := 0 }, { name := "moodys", type := (.object "java/lang/String"), accessFlags := 18, slot := 4, constantValue := 0 }, { name := "$VALUES", type := (.array (.object "com/example/facility_atlas/facilityatlas/Rating")), accessFlags := 4122, slot := 21, constantValue := 0 }]
  methods := #[k6m0]
  instanceTypes := #[(.object "java/lang/String"), .int, .int, (.object "java/lang/String"), (.object "java/lang/String")]
  staticTypes := #[(.object "com/example/facility_atlas/facilityatlas/Rating"), (.object "com/example/facility_atlas/facilityatlas/Rating"), (.object "com/example/facility_atlas/facilityatlas/Rating"), (.object "com/example/facility_atlas/facilityatlas/Rating"), (.object "com/example/facility_atlas/facilityatlas/Rating"), (.object "com/example/facility_atlas/facilityatlas/Rating"), (.object "com/example/facility_atlas/facilityatlas/Rating"), (.object "com/example/facility_atlas/facilityatlas/Rating"), (.object "com/example/facility_atlas/facilityatlas/Rating"), (.object "com/example/facility_atlas/facilityatlas/Rating"), (.object "com/example/facility_atlas/facilityatlas/Rating"), (.object "com/example/facility_atlas/facilityatlas/Rating"), (.object "com/example/facility_atlas/facilityatlas/Rating"), (.object "com/example/facility_atlas/facilityatlas/Rating"), (.object "com/example/facility_atlas/facilityatlas/Rating"), (.object "com/example/facility_atlas/facilityatlas/Rating"), (.object "com/example/facility_atlas/facilityatlas/Rating"), (.object "com/example/facility_atlas/facilityatlas/Rating"), (.object "com/example/facility_atlas/facilityatlas/Rating"), (.object "com/example/facility_atlas/facilityatlas/Rating"), (.object "com/example/facility_atlas/facilityatlas/Rating"), (.array (.object "com/example/facility_atlas/facilityatlas/Rating"))]
  resolved := Array.replicate 262 none
  statics := some 0 }

def pool7 : Array CpInfo := pool [(1, u "java/lang/Cloneable"), (0, .class_ 1), (0, u "java/lang/Object"), (0, .class_ 3)] 3

/-- java/lang/Cloneable -/
def k7 : Class := { plain "java/lang/Cloneable" (some 0) with
  accessFlags := 1537
  interfaces := #[]
  cf := some (fileOf pool7 2 #[] #[] 1537 4 #[] #[])
  fields := #[]
  methods := #[]
  instanceTypes := #[]
  staticTypes := #[]
  resolved := Array.replicate 8 none
  statics := none }

/-- the primitive byte -/
def k8 : Class := { plain "byte" none with kind := .primitive 'B', accessFlags := 0x411 }
/-- [B -/
def k9 : Class := { plain "[B" (some 0) with kind := .array 8 .byte, interfaces := #[7, 4], accessFlags := 1041 }

/-- the primitive int -/
def k10 : Class := { plain "int" none with kind := .primitive 'I', accessFlags := 0x411 }
/-- [I -/
def k11 : Class := { plain "[I" (some 0) with kind := .array 10 .int, interfaces := #[7, 4], accessFlags := 1041 }

/-- [Lcom/example/facility_atlas/facilityatlas/Rating; -/
def k12 : Class := { plain "[Lcom/example/facility_atlas/facilityatlas/Rating;" (some 0) with kind := .array 6 (.object "com/example/facility_atlas/facilityatlas/Rating"), interfaces := #[7, 4], accessFlags := 1041 }

def heap : Heap := #[{ cls := 6, slots := #[.ref 1, .ref 2, .ref 3, .ref 4, .ref 5, .ref 6, .ref 7, .ref 8, .ref 9, .ref 10, .ref 11, .ref 12, .ref 13, .ref 14, .ref 15, .ref 16, .ref 17, .ref 18, .ref 19, .ref 20, .ref 21, .null], vm := .statics 6 },
  { cls := 6, slots := #[.null, .int 0, .int 0, .null, .null], vm := .none },
  { cls := 6, slots := #[.null, .int 1, .int 0, .null, .null], vm := .none },
  { cls := 6, slots := #[.null, .int 2, .int 0, .null, .null], vm := .none },
  { cls := 6, slots := #[.null, .int 3, .int 0, .null, .null], vm := .none },
  { cls := 6, slots := #[.null, .int 4, .int 0, .null, .null], vm := .none },
  { cls := 6, slots := #[.null, .int 5, .int 0, .null, .null], vm := .none },
  { cls := 6, slots := #[.null, .int 6, .int 0, .null, .null], vm := .none },
  { cls := 6, slots := #[.null, .int 7, .int 0, .null, .null], vm := .none },
  { cls := 6, slots := #[.null, .int 8, .int 0, .null, .null], vm := .none },
  { cls := 6, slots := #[.null, .int 9, .int 0, .null, .null], vm := .none },
  { cls := 6, slots := #[.null, .int 10, .int 0, .null, .null], vm := .none },
  { cls := 6, slots := #[.null, .int 11, .int 0, .null, .null], vm := .none },
  { cls := 6, slots := #[.null, .int 12, .int 0, .null, .null], vm := .none },
  { cls := 6, slots := #[.null, .int 13, .int 0, .null, .null], vm := .none },
  { cls := 6, slots := #[.null, .int 14, .int 0, .null, .null], vm := .none },
  { cls := 6, slots := #[.null, .int 15, .int 0, .null, .null], vm := .none },
  { cls := 6, slots := #[.null, .int 16, .int 0, .null, .null], vm := .none },
  { cls := 6, slots := #[.null, .int 17, .int 0, .null, .null], vm := .none },
  { cls := 6, slots := #[.null, .int 18, .int 0, .null, .null], vm := .none },
  { cls := 6, slots := #[.null, .int 19, .int 0, .null, .null], vm := .none },
  { cls := 6, slots := #[.null, .int 20, .int 0, .null, .null], vm := .none }]
def classes : Array Class := #[k0, k1, k2, k3, k4, k5, k6, k7, k8, k9, k10, k11, k12]
def interned : List (Array UInt16 × Addr) := []
def slotsUsed : Nat := 127
def theMethod : MethodId := ⟨1, 1⟩
def args0 : Array Value := #[.int 5, .int 1]
def aboutOver (below : List Frame) : State where
  vm := { classes := classes, interned := interned.toArray }
  heap := heap
  slotsUsed := slotsUsed
  threads := #[{ frames := .invoking theMethod args0 :: below }]
def below0 : List Frame := [.native { method := ⟨0, 0⟩, args := #[] }]
def about1 : State := aboutOver below0
def p0 : Program := .bare "" "" ""
def e0 : Env := launch0.env 0 0 0
theorem w_frames : about1.frames = Frame.invoking theMethod args0 :: below0 := rfl
set_option maxRecDepth 65536 in
theorem w_args : argsFit about1.vm theMethod args0 = true := by decide +kernel
set_option maxRecDepth 65536 in
theorem w_heap : heapFits about1 = true := by decide +kernel
set_option maxRecDepth 65536 in
theorem w_runnable : about1.curStatus? = some .runnable := by decide +kernel
set_option maxRecDepth 65536 in
theorem w_alone : about1.alone = true := by decide +kernel
set_option maxRecDepth 65536 in
theorem w_named : about1.methodNamed? x = some theMethod := by decide +kernel
set_option maxRecDepth 65536 in
theorem w_hears : about1.hears theMethod below0 = true := by decide +kernel
set_option maxRecDepth 65536 in
theorem w_ripe : about1.ripe theMethod args0 below0 = true := by decide +kernel
theorem w_running : about1.status = .running := rfl
set_option maxRecDepth 65536 in
theorem w_room : about1.hasRoom e0.platform room_1 = true :=
  launch0.hasRoom_least _ room_1 (by decide +kernel) (by decide +kernel) (by decide +kernel) (by decide +kernel) (by decide +kernel) (by decide +kernel)
theorem allAtoms_all (ts : List Jvm.Cond) (a : Array Jvm.Value) (st : Jvm.State) : (allAtoms ts).before a st = ts.all (fun c => c.before a st) := by
  induction ts with
  | nil => rfl
  | cons c t ih =>
    show (Jvm.Cond.and c (allAtoms t)).before a st = _
    rw [Jvm.Cond.before_and, ih, List.all_cons]
def words1 : List Jvm.Cond := Jvm.Cond.code x code maxLocals ret :: tables_1
/-- a 'code' word, met by the world's own term for the bytes: nothing is compared byte by byte -/
theorem code_word {y : MethodName} {bytes : ByteArray} {mx : Nat} {rt : Option FieldType} {a : Array Value} {s : State} {m : MethodId} {meth : Method} {c : Code} (h1 : s.methodNamed? y = some m) (h2 : s.vm.method? m = some meth) (h3 : meth.code = some c) (h4 : c.code = bytes)
    (h5 : (c.maxLocals == mx && c.exceptionTable.isEmpty && decide (c.maxStack ≤ mostOperands) && decide (meth.sig.returnType = rt) && !meth.locks && decide (parseMethodDescriptor y.desc = some meth.sig)) = true) : (Jvm.Cond.code y bytes mx rt).before a s = true := by
  simp only [Bool.and_eq_true, beq_iff_eq, Bool.not_eq_true', decide_eq_true_eq] at h5
  obtain ⟨⟨⟨⟨⟨g1, g2⟩, g3⟩, g4⟩, g5⟩, g6⟩ := h5
  simp [Cond.before, Cond.holds, Cond.value, h1, h2, h3, h4, g1, g2, g3, g4, g5, g6]
def isCode : Jvm.Cond → Bool
  | .code _ _ _ _ => true
  | _ => false
theorem all_split {L : List Jvm.Cond} {P : Jvm.Cond → Bool} (h1 : L.all (fun c => isCode c || P c) = true) (h2 : ∀ c ∈ L.filter isCode, P c = true) : L.all P = true := by
  refine List.all_eq_true.mpr fun c hc => ?_
  have h := List.all_eq_true.mp h1 c hc
  rcases Bool.eq_false_or_eq_true (isCode c) with hi | hi
  · exact h2 c (List.mem_filter.mpr ⟨hc, hi⟩)
  · simpa [hi] using h
set_option maxRecDepth 65536 in
theorem w_c0 : (Jvm.Cond.code x code maxLocals ret).before args0 about1 = true := code_word (m := ⟨1, 1⟩) (meth := k1m1) (c := k1c1) (by decide +kernel) rfl rfl rfl (by decide +kernel)
set_option maxRecDepth 65536 in
theorem w_c1 : (Jvm.Cond.code ({ cls := "com/example/facility_atlas/facilityatlas/Rating", name := "isAtOrAbove", desc := "(Lcom/example/facility_atlas/facilityatlas/Rating;)Z" } : Jvm.MethodName) prog_47_method_5_code (2 : Nat) (Option.some Jvm.ClassFile.FieldType.boolean)).before args0 about1 = true := code_word (m := ⟨6, 0⟩) (meth := k6m0) (c := k6c0) (by decide +kernel) rfl rfl rfl (by decide +kernel)
set_option maxRecDepth 65536 in
theorem w_c2 : (Jvm.Cond.code ({ cls := "java/lang/Enum", name := "ordinal", desc := "()I" } : Jvm.MethodName) jdk_37_method_2_code (1 : Nat) (Option.some Jvm.ClassFile.FieldType.int)).before args0 about1 = true := code_word (m := ⟨5, 0⟩) (meth := k5m0) (c := k5c0) (by decide +kernel) rfl rfl rfl (by decide +kernel)
def codes1 : List Jvm.Cond := [Jvm.Cond.code x code maxLocals ret, Jvm.Cond.code ({ cls := "com/example/facility_atlas/facilityatlas/Rating", name := "isAtOrAbove", desc := "(Lcom/example/facility_atlas/facilityatlas/Rating;)Z" } : Jvm.MethodName) prog_47_method_5_code (2 : Nat) (Option.some Jvm.ClassFile.FieldType.boolean), Jvm.Cond.code ({ cls := "java/lang/Enum", name := "ordinal", desc := "()I" } : Jvm.MethodName) jdk_37_method_2_code (1 : Nat) (Option.some Jvm.ClassFile.FieldType.int)]
set_option maxRecDepth 65536 in
theorem codes_eq : words1.filter isCode = codes1 := rfl
theorem w_codes : ∀ c ∈ words1.filter isCode, c.before args0 about1 = true := by
  rw [codes_eq]
  intro c hc
  simp only [codes1, List.mem_cons, List.not_mem_nil, or_false] at hc
  rcases hc with rfl | rfl | rfl
  · exact w_c0
  · exact w_c1
  · exact w_c2
set_option maxRecDepth 65536 in
theorem w_t1 : (words1.take 24).all (fun c => isCode c || c.before args0 about1) = true := by decide +kernel
set_option maxRecDepth 65536 in
theorem w_t2 : ((words1.drop 24).take 24).all (fun c => isCode c || c.before args0 about1) = true := by decide +kernel
set_option maxRecDepth 65536 in
theorem w_t3 : ((words1.drop 24).drop 24).all (fun c => isCode c || c.before args0 about1) = true := by decide +kernel
theorem w_tables : (allAtoms (Jvm.Cond.code x code maxLocals ret :: tables_1)).before args0 about1 = true := by
  rw [allAtoms_all]
  show words1.all (fun c => c.before args0 about1) = true
  refine all_split ?_ w_codes
  rw [← List.take_append_drop 24 words1, List.all_append, w_t1, ← List.take_append_drop 24 (words1.drop 24), List.all_append, w_t2, w_t3]
  rfl
set_option maxRecDepth 65536 in
theorem w_case : (Jvm.Cond.and given_1 narrow_1).before args0 about1 = true := by decide +kernel
theorem w_applies : (headSpec (Jvm.Cond.code x code maxLocals ret :: tables_1) room_1).applies x e0.platform about1 = true :=
  (Spec.applies_iff w_frames).mpr ⟨w_running, w_runnable, w_alone, w_named, w_hears, w_ripe, w_room, w_tables⟩
theorem atStart : AtStart classFile x code maxLocals ret World_1 tables_1 room_1 Calls_1 rest_1 Pre_1 launch0 p0 e0 about1 theMethod args0 below0 :=
  ⟨lists_1, trivial, launch0.admits_env _ _ _, launch0.least_env, fairChoices_fair.cas, fairChoices_fair.clock, w_frames, w_args, w_heap, w_applies, trivial, trivial, w_case⟩
end start1
theorem witness_1 : WitnessClaimed_1 := ⟨start1.p0, start1.e0, start1.about1, start1.theMethod, start1.args0, start1.below0, start1.atStart⟩
end Jvm.Pilot.@@N@@
