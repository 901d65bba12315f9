import JvmDerived
import JvmDerived.Pilot.@@N@@Statement
import JvmDerived.Pilot.@@N@@Code
set_option linter.unusedVariables false
set_option linter.unusedSimpArgs false
namespace Jvm.RoadKit
open Sem ClassFile Op Lib Jvm.Stand Jvm.Free Jvm.LawKit
section New
variable {p : Program} {l : Launch} {e : Env} {R : Room} {s : State} {m : MethodId} {args : Array Value} {below : List Frame} {meth : Method} {c : Code} {T : State} {locs : List Loc} {cells slots : Nat}
theorem retI (X : Stand p l e R s m args below meth c T locs cells slots) (hx : p.tables.exec = Jvm.exec) {pc : Nat} {Ls : Array Slot} {z : Int32} {rest : List Value} (hret : meth.sig.returnType = some .int) (hd : decode c.code pc = .ok (.ireturn, 1)) {fs : List Frame}
    (hl : ∀ (f : JFrame) (acts : List Action), f.method = m → f.locked = none → f.entered = [] → (doReturn e (T.setTop f) acts (some (.int z))).1 = T.setFrames fs) : Steps p.tables e below (T.setTop (mkF m pc Ls (.int z :: rest))) (T.setFrames fs) := by
  have hm' : T.vm.method? m = some meth := X.method'
  have hn : narrow .int (.int z) = .int z := rfl
  show Steps p.tables e below (T.setTop { method := m, pc := pc, locals := Ls, stack := _ :: rest, locked := none }) _
  jvm_step X.here [X.here.top, hx, hd, hm', hret, hn]
  first | (intro acts; rw [hl _ acts rfl rfl rfl]) | rw [hl _ _ rfl rfl rfl]
  exact Steps.refl _
end New
end Jvm.RoadKit
namespace Jvm.Pilot.@@N@@
open Jvm Jvm.ClassFile Sem Op Lib Jvm.Free Jvm.Stand Jvm.LawKit Jvm.RoadKit Bundle Jvm.Pilot.@@N@@.Jvm.D
theorem own_eqI {args : Array Value} {s : State} {t : Term} {k : Int32} (h : (Jvm.Cond.eq t (.int k)).value args s none s [] = some true) : t.eval args s none [] s = some (.int k) := by
  obtain ⟨x, y, hx, hy, -, k2⟩ := cmp_v (Or.inl h)
  obtain rfl : y = .int k := (Option.some.inj ((Term.int_eval k).symm.trans hy)).symm
  obtain ⟨z, rfl⟩ := k2
  have := gotT (Cond.eq_ints hx (Term.int_eval k)) h
  rw [hx, this]
def Q0 (n0 : Nat) (v : Option Value) (L : List Loc) : Prop := v = some (.int 1) ∧ Fr n0 L
def AtC (Z : State) (a : Addr) (ty : FieldType) (j : Int32) (w : Addr) : Prop := ∃ cl : Cell, Arr Z Z.heap a cl ty ∧ ¬ (j < 0 ∨ cl.slots.size ≤ j.toNatClampNeg) ∧ cl.slots[j.toNatClampNeg]? = some (.ref w)
theorem own_box {Z : State} {a : Addr} {c : Cell} {K d : String} {z : Int32} {val : Int32 → Value} (B : Bxs Z a c K d z val) {j : Int32} (h0 : ¬ j < 0) (h1 : j < z) : ∃ w, AtC Z a (.object K) j w ∧ Exa Z Z.heap w K ∧ Fld Z Z.heap w K "value" d (val j) := by
  obtain ⟨A, S, -, F⟩ := B
  have hin := inb_of S ⟨h0, h1⟩
  obtain ⟨w, hw, E, Fl⟩ := F j hin
  exact ⟨w, ⟨c, A, hin, hw⟩, E, Fl⟩
theorem own_len {s : State} {args : Array Value} {t : Term} {a : Addr} {c : Cell} {z : Int32} (ev : t.eval args s none [] s = some (.ref a)) (fl : s.arrayAt? a = some c) (el : (Term.length t).eval args s none [] s = some (.int z)) : c.slots.size < 2 ^ 31 ∧ c.slots.size.toInt32 = z := by
  simp only [Term.eval, ev] at el
  by_cases q : c.slots.size < 2 ^ 31
  · simp [fl, q] at el; exact ⟨q, el⟩
  · simp [fl, q] at el
theorem own_bxs {Z : State} {args : Array Value} {C n dd : String} {F : Term} {a : Addr} {K d : String} {z : Int32} {val : Int32 → Value} (ev : (Term.static C n dd).eval args Z none [] Z = some (.ref a))
    (ha : (Jvm.Cond.arrayOf (.static C n dd) (.object K)).value args Z none Z [] = some true) (hl : (Jvm.Cond.eq (.length (.static C n dd)) (.int z)).value args Z none Z [] = some true) (hz : ¬ z < 0)
    (h : (Jvm.Cond.all (.static C n dd) (.and (.exactly (.elem (.static C n dd) (.index 0)) K) (.eq (.field (.elem (.static C n dd) (.index 0)) K "value" d) F))).value args Z none Z [] = some true)
    (hv : ∀ (X : Term) (j : Int32), ¬ j < 0 → (Jvm.Cond.eq X F).value args Z none Z [j.toNatClampNeg] = some true → X.eval args Z none [j.toNatClampNeg] Z = some (val j)) : ∃ c, Bxs Z a c K d z val := by
  obtain ⟨c, A⟩ := Arr.start ev ha
  have hq := own_len ev (A.fin (Vm.Alike.refl _)) (own_eqI hl)
  exact ⟨c, Bxs.start (fun _ => ev) A hq.1 hq.2 hz h hv⟩
theorem own_arr0 {s : State} {args : Array Value} {t : Term} {a : Addr} {K : String} (hf : Fit s) (ev : t.eval args s none [] s = some (.ref a)) (ha : (Jvm.Cond.arrayOf t (.object K)).value args s none s [] = some true) (hl : (Jvm.Cond.eq (.length t) (.int 0)).value args s none s [] = some true) :
    ∃ k, Arv s s.heap a k (.object K) (0 : Int32) [] .null := by
  obtain ⟨c, A⟩ := Arr.start ev ha
  have hq := own_len ev (A.fin (Vm.Alike.refl _)) (own_eqI hl)
  exact ⟨_, Arv.start hf A hq.1 hq.2 (by decide) rfl trivial⟩
theorem own_eqR {s : State} {args : Array Value} {t u : Term} {w : Addr} (hu : u.eval args s none [] s = some (.ref w)) (h : (Jvm.Cond.eq t u).value args s none s [] = some true) : t.eval args s none [] s = some (.ref w) := by
  obtain ⟨x, y, hx, hy, -, k2⟩ := cmp_v (Or.inl h)
  obtain rfl : y = .ref w := (Option.some.inj (hu.symm.trans hy)).symm
  have := gotT (eq_R hx hu k2.2 rfl) h
  rw [hx, this]
theorem own_idx {Z : State} {args : Array Value} {j : Int32} (hj : ¬ j < 0) : (Term.sub (.index 0) (.int 128)).eval args Z none [j.toNatClampNeg] Z = some (.int (j - 128)) := by
  have e := idx_at (args := args) (s := Z) (first := Z) (o := none) hj
  simp [Term.eval, e]
  exact (back32 hj).1
theorem own_addsub (a b : Int32) : a + b - b = a := by
  apply Int32.toInt_inj.mp
  have := c_iadd a b; have := c_isub (a + b) b; have := rng32 a; have := rng32 b; have := rng32 (a + b - b)
  omega
theorem own_inbox {y : Int32} (h1 : ¬ (y < (-128 : Int32))) (h2 : ¬ ((127 : Int32) < y)) : ¬ ((y + (128 : Int32)) < 0) ∧ (y + (128 : Int32)) < 256 := by
  rw [Int32.lt_iff_toInt_lt] at h1 h2
  rw [Int32.lt_iff_toInt_lt, Int32.lt_iff_toInt_lt]
  have l0 : (0 : Int32).toInt = 0 := by decide
  have l127 : (127 : Int32).toInt = 127 := by decide
  have l128 : (128 : Int32).toInt = 128 := by decide
  have lm : (-128 : Int32).toInt = -128 := by decide
  have l256 : (256 : Int32).toInt = 256 := by decide
  have := c_iadd y 128; have := rng32 (y + 128)
  omega
def own_imax (x y : Int32) : Int32 := if x < y then y else x
theorem own_and3 (x : Int32) : (x &&& (3 : Int32)) = (0 : Int32) ∨ (x &&& (3 : Int32)) = (1 : Int32) ∨ (x &&& (3 : Int32)) = (2 : Int32) ∨ (x &&& (3 : Int32)) = (3 : Int32) := by
  have e1 := c_mask x 3 2 (by decide) (by decide)
  generalize (x &&& (3 : Int32)) = r at *
  have hd : r.toInt = 0 ∨ r.toInt = 1 ∨ r.toInt = 2 ∨ r.toInt = 3 := by omega
  rcases hd with h | h | h | h
  · exact Or.inl (Int32.toInt_inj.mp (h.trans (by decide)))
  · exact Or.inr (Or.inl (Int32.toInt_inj.mp (h.trans (by decide))))
  · exact Or.inr (Or.inr (Or.inl (Int32.toInt_inj.mp (h.trans (by decide)))))
  · exact Or.inr (Or.inr (Or.inr (Int32.toInt_inj.mp (h.trans (by decide)))))
theorem own_b3 (x : Int32) : ¬ ((x &&& (3 : Int32)) < (0 : Int32)) ∧ (x &&& (3 : Int32)) < (4 : Int32) := by
  rcases own_and3 x with h | h | h | h <;> rw [h] <;> decide
theorem own_imax1 (y : Int32) : 1 ≤ (own_imax 1 y).toInt := by
  unfold own_imax
  have l1 : (1 : Int32).toInt = 1 := by decide
  split
  · rename_i h; rw [Int32.lt_iff_toInt_lt] at h; omega
  · omega
theorem wd0 {a0 : Array Value} {Z : State} (hw : ∀ d ∈ tables_1, d.before a0 Z = true) : (Jvm.Cond.classLink "com/example/larch/larch/model/IntervalEqualsPinLaw" (7 : Nat) "com/example/larch/larch/model/IntervalUnit").before a0 Z = true := hw _ (List.mem_of_getElem? (i := 0) rfl)
theorem wd1 {a0 : Array Value} {Z : State} (hw : ∀ d ∈ tables_1, d.before a0 Z = true) : (Jvm.Cond.arrayOver (Jvm.ClassFile.FieldType.object "com/example/larch/larch/model/IntervalUnit")).before a0 Z = true := hw _ (List.mem_of_getElem? (i := 1) rfl)
theorem wd2 {a0 : Array Value} {Z : State} (hw : ∀ d ∈ tables_1, d.before a0 Z = true) : (Jvm.Cond.fieldLink "com/example/larch/larch/model/IntervalEqualsPinLaw" (9 : Nat) "com/example/larch/larch/model/IntervalUnit" "DAY" "Lcom/example/larch/larch/model/IntervalUnit;").before a0 Z = true := hw _ (List.mem_of_getElem? (i := 2) rfl)
theorem wd3 {a0 : Array Value} {Z : State} (hw : ∀ d ∈ tables_1, d.before a0 Z = true) : (Jvm.Cond.initialized "com/example/larch/larch/model/IntervalUnit").before a0 Z = true := hw _ (List.mem_of_getElem? (i := 3) rfl)
theorem wd4 {a0 : Array Value} {Z : State} (hw : ∀ d ∈ tables_1, d.before a0 Z = true) : (Jvm.Cond.laysStatic "com/example/larch/larch/model/IntervalUnit" "DAY" "Lcom/example/larch/larch/model/IntervalUnit;").before a0 Z = true := hw _ (List.mem_of_getElem? (i := 4) rfl)
theorem wd6 {a0 : Array Value} {Z : State} (hw : ∀ d ∈ tables_1, d.before a0 Z = true) : (Jvm.Cond.fieldLink "com/example/larch/larch/model/IntervalEqualsPinLaw" (13 : Nat) "com/example/larch/larch/model/IntervalUnit" "WEEK" "Lcom/example/larch/larch/model/IntervalUnit;").before a0 Z = true := hw _ (List.mem_of_getElem? (i := 6) rfl)
theorem wd7 {a0 : Array Value} {Z : State} (hw : ∀ d ∈ tables_1, d.before a0 Z = true) : (Jvm.Cond.laysStatic "com/example/larch/larch/model/IntervalUnit" "WEEK" "Lcom/example/larch/larch/model/IntervalUnit;").before a0 Z = true := hw _ (List.mem_of_getElem? (i := 7) rfl)
theorem wd8 {a0 : Array Value} {Z : State} (hw : ∀ d ∈ tables_1, d.before a0 Z = true) : (Jvm.Cond.fieldLink "com/example/larch/larch/model/IntervalEqualsPinLaw" (16 : Nat) "com/example/larch/larch/model/IntervalUnit" "MONTH" "Lcom/example/larch/larch/model/IntervalUnit;").before a0 Z = true := hw _ (List.mem_of_getElem? (i := 8) rfl)
theorem wd9 {a0 : Array Value} {Z : State} (hw : ∀ d ∈ tables_1, d.before a0 Z = true) : (Jvm.Cond.laysStatic "com/example/larch/larch/model/IntervalUnit" "MONTH" "Lcom/example/larch/larch/model/IntervalUnit;").before a0 Z = true := hw _ (List.mem_of_getElem? (i := 9) rfl)
theorem wd10 {a0 : Array Value} {Z : State} (hw : ∀ d ∈ tables_1, d.before a0 Z = true) : (Jvm.Cond.fieldLink "com/example/larch/larch/model/IntervalEqualsPinLaw" (19 : Nat) "com/example/larch/larch/model/IntervalUnit" "YEAR" "Lcom/example/larch/larch/model/IntervalUnit;").before a0 Z = true := hw _ (List.mem_of_getElem? (i := 10) rfl)
theorem wd11 {a0 : Array Value} {Z : State} (hw : ∀ d ∈ tables_1, d.before a0 Z = true) : (Jvm.Cond.laysStatic "com/example/larch/larch/model/IntervalUnit" "YEAR" "Lcom/example/larch/larch/model/IntervalUnit;").before a0 Z = true := hw _ (List.mem_of_getElem? (i := 11) rfl)
theorem wd12 {a0 : Array Value} {Z : State} (hw : ∀ d ∈ tables_1, d.before a0 Z = true) : (Jvm.Cond.constant "com/example/larch/larch/model/IntervalEqualsPinLaw" (22 : Nat) (2147483647 : Int32)).before a0 Z = true := hw _ (List.mem_of_getElem? (i := 12) rfl)
theorem wd13 {a0 : Array Value} {Z : State} (hw : ∀ d ∈ tables_1, d.before a0 Z = true) : (Jvm.Cond.methodLink "com/example/larch/larch/model/IntervalEqualsPinLaw" (23 : Nat) ({ cls := "java/lang/Math", name := "max", desc := "(II)I" } : Jvm.MethodName)).before a0 Z = true := hw _ (List.mem_of_getElem? (i := 13) rfl)
theorem wd14 {a0 : Array Value} {Z : State} (hw : ∀ d ∈ tables_1, d.before a0 Z = true) : (Jvm.Cond.static ({ cls := "java/lang/Math", name := "max", desc := "(II)I" } : Jvm.MethodName)).before a0 Z = true := hw _ (List.mem_of_getElem? (i := 14) rfl)
theorem wd15 {a0 : Array Value} {Z : State} (hw : ∀ d ∈ tables_1, d.before a0 Z = true) : (Jvm.Cond.initialized "java/lang/Math").before a0 Z = true := hw _ (List.mem_of_getElem? (i := 15) rfl)
theorem wd16 {a0 : Array Value} {Z : State} (hw : ∀ d ∈ tables_1, d.before a0 Z = true) : (Jvm.Cond.code ({ cls := "java/lang/Math", name := "max", desc := "(II)I" } : Jvm.MethodName) jdk_29_method_65_code (2 : Nat) (Option.some Jvm.ClassFile.FieldType.int)).before a0 Z = true := hw _ (List.mem_of_getElem? (i := 16) rfl)
theorem wd17 {a0 : Array Value} {Z : State} (hw : ∀ d ∈ tables_1, d.before a0 Z = true) : (Jvm.Cond.classLink "com/example/larch/larch/model/IntervalEqualsPinLaw" (29 : Nat) "com/example/larch/larch/model/Interval").before a0 Z = true := hw _ (List.mem_of_getElem? (i := 17) rfl)
theorem wd18 {a0 : Array Value} {Z : State} (hw : ∀ d ∈ tables_1, d.before a0 Z = true) : (Jvm.Cond.instantiable "com/example/larch/larch/model/Interval" (2 : Nat)).before a0 Z = true := hw _ (List.mem_of_getElem? (i := 18) rfl)
theorem wd19 {a0 : Array Value} {Z : State} (hw : ∀ d ∈ tables_1, d.before a0 Z = true) : (Jvm.Cond.initialized "com/example/larch/larch/model/Interval").before a0 Z = true := hw _ (List.mem_of_getElem? (i := 19) rfl)
theorem wd20 {a0 : Array Value} {Z : State} (hw : ∀ d ∈ tables_1, d.before a0 Z = true) : (Jvm.Cond.methodLink "com/example/larch/larch/model/IntervalEqualsPinLaw" (31 : Nat) ({ cls := "com/example/larch/larch/model/Interval", name := "<init>", desc := "(Lcom/example/larch/larch/model/IntervalUnit;I)V" } : Jvm.MethodName)).before a0 Z = true := hw _ (List.mem_of_getElem? (i := 20) rfl)
theorem wd21 {a0 : Array Value} {Z : State} (hw : ∀ d ∈ tables_1, d.before a0 Z = true) : (Jvm.Cond.instanceMethod ({ cls := "com/example/larch/larch/model/Interval", name := "<init>", desc := "(Lcom/example/larch/larch/model/IntervalUnit;I)V" } : Jvm.MethodName)).before a0 Z = true := hw _ (List.mem_of_getElem? (i := 21) rfl)
theorem wd22 {a0 : Array Value} {Z : State} (hw : ∀ d ∈ tables_1, d.before a0 Z = true) : (Jvm.Cond.code ({ cls := "com/example/larch/larch/model/Interval", name := "<init>", desc := "(Lcom/example/larch/larch/model/IntervalUnit;I)V" } : Jvm.MethodName) prog_7_method_1_code (3 : Nat) (Option.none : Option Jvm.ClassFile.FieldType)).before a0 Z = true := hw _ (List.mem_of_getElem? (i := 22) rfl)
theorem wd23 {a0 : Array Value} {Z : State} (hw : ∀ d ∈ tables_1, d.before a0 Z = true) : (Jvm.Cond.methodLink "com/example/larch/larch/model/Interval" (1 : Nat) ({ cls := "java/lang/Object", name := "<init>", desc := "()V" } : Jvm.MethodName)).before a0 Z = true := hw _ (List.mem_of_getElem? (i := 23) rfl)
theorem wd24 {a0 : Array Value} {Z : State} (hw : ∀ d ∈ tables_1, d.before a0 Z = true) : (Jvm.Cond.instanceMethod ({ cls := "java/lang/Object", name := "<init>", desc := "()V" } : Jvm.MethodName)).before a0 Z = true := hw _ (List.mem_of_getElem? (i := 24) rfl)
theorem wd25 {a0 : Array Value} {Z : State} (hw : ∀ d ∈ tables_1, d.before a0 Z = true) : (Jvm.Cond.code ({ cls := "java/lang/Object", name := "<init>", desc := "()V" } : Jvm.MethodName) object_method_1_code (1 : Nat) (Option.none : Option Jvm.ClassFile.FieldType)).before a0 Z = true := hw _ (List.mem_of_getElem? (i := 25) rfl)
theorem wd26 {a0 : Array Value} {Z : State} (hw : ∀ d ∈ tables_1, d.before a0 Z = true) : (Jvm.Cond.stringLink "com/example/larch/larch/model/Interval" (7 : Nat) "unit").before a0 Z = true := hw _ (List.mem_of_getElem? (i := 26) rfl)
theorem wd27 {a0 : Array Value} {Z : State} (hw : ∀ d ∈ tables_1, d.before a0 Z = true) : (Jvm.Cond.initialized "java/lang/String").before a0 Z = true := hw _ (List.mem_of_getElem? (i := 27) rfl)
theorem wd28 {a0 : Array Value} {Z : State} (hw : ∀ d ∈ tables_1, d.before a0 Z = true) : (Jvm.Cond.instantiable "java/lang/String" (4 : Nat)).before a0 Z = true := hw _ (List.mem_of_getElem? (i := 28) rfl)
theorem wd29 {a0 : Array Value} {Z : State} (hw : ∀ d ∈ tables_1, d.before a0 Z = true) : (Jvm.Cond.arrayClass Jvm.ClassFile.FieldType.byte).before a0 Z = true := hw _ (List.mem_of_getElem? (i := 29) rfl)
theorem wd30 {a0 : Array Value} {Z : State} (hw : ∀ d ∈ tables_1, d.before a0 Z = true) : (Jvm.Cond.laysFinal "java/lang/String" "java/lang/String" "value" "[B").before a0 Z = true := hw _ (List.mem_of_getElem? (i := 30) rfl)
theorem wd31 {a0 : Array Value} {Z : State} (hw : ∀ d ∈ tables_1, d.before a0 Z = true) : (Jvm.Cond.laysFinal "java/lang/String" "java/lang/String" "coder" "B").before a0 Z = true := hw _ (List.mem_of_getElem? (i := 31) rfl)
theorem wd32 {a0 : Array Value} {Z : State} (hw : ∀ d ∈ tables_1, d.before a0 Z = true) : (Jvm.Cond.soleField "java/lang/String" "value").before a0 Z = true := hw _ (List.mem_of_getElem? (i := 32) rfl)
theorem wd33 {a0 : Array Value} {Z : State} (hw : ∀ d ∈ tables_1, d.before a0 Z = true) : (Jvm.Cond.soleField "java/lang/String" "coder").before a0 Z = true := hw _ (List.mem_of_getElem? (i := 33) rfl)
theorem wd34 {a0 : Array Value} {Z : State} (hw : ∀ d ∈ tables_1, d.before a0 Z = true) : (Jvm.Cond.methodLink "com/example/larch/larch/model/Interval" (9 : Nat) ({ cls := "java/util/Objects", name := "requireNonNull", desc := "(Ljava/lang/Object;Ljava/lang/String;)Ljava/lang/Object;" } : Jvm.MethodName)).before a0 Z = true := hw _ (List.mem_of_getElem? (i := 34) rfl)
theorem wd35 {a0 : Array Value} {Z : State} (hw : ∀ d ∈ tables_1, d.before a0 Z = true) : (Jvm.Cond.static ({ cls := "java/util/Objects", name := "requireNonNull", desc := "(Ljava/lang/Object;Ljava/lang/String;)Ljava/lang/Object;" } : Jvm.MethodName)).before a0 Z = true := hw _ (List.mem_of_getElem? (i := 35) rfl)
theorem wd36 {a0 : Array Value} {Z : State} (hw : ∀ d ∈ tables_1, d.before a0 Z = true) : (Jvm.Cond.initialized "java/util/Objects").before a0 Z = true := hw _ (List.mem_of_getElem? (i := 36) rfl)
theorem wd37 {a0 : Array Value} {Z : State} (hw : ∀ d ∈ tables_1, d.before a0 Z = true) : (Jvm.Cond.code ({ cls := "java/util/Objects", name := "requireNonNull", desc := "(Ljava/lang/Object;Ljava/lang/String;)Ljava/lang/Object;" } : Jvm.MethodName) jdk_31_method_11_code (2 : Nat) (Option.some (Jvm.ClassFile.FieldType.object "java/lang/Object"))).before a0 Z = true := hw _ (List.mem_of_getElem? (i := 37) rfl)
theorem wd38 {a0 : Array Value} {Z : State} (hw : ∀ d ∈ tables_1, d.before a0 Z = true) : (Jvm.Cond.fieldLink "com/example/larch/larch/model/Interval" (24 : Nat) "com/example/larch/larch/model/Interval" "unit" "Lcom/example/larch/larch/model/IntervalUnit;").before a0 Z = true := hw _ (List.mem_of_getElem? (i := 38) rfl)
theorem wd39 {a0 : Array Value} {Z : State} (hw : ∀ d ∈ tables_1, d.before a0 Z = true) : (Jvm.Cond.laysFinal "com/example/larch/larch/model/Interval" "com/example/larch/larch/model/Interval" "unit" "Lcom/example/larch/larch/model/IntervalUnit;").before a0 Z = true := hw _ (List.mem_of_getElem? (i := 39) rfl)
theorem wd40 {a0 : Array Value} {Z : State} (hw : ∀ d ∈ tables_1, d.before a0 Z = true) : (Jvm.Cond.fieldLink "com/example/larch/larch/model/Interval" (29 : Nat) "com/example/larch/larch/model/Interval" "length" "I").before a0 Z = true := hw _ (List.mem_of_getElem? (i := 40) rfl)
theorem wd41 {a0 : Array Value} {Z : State} (hw : ∀ d ∈ tables_1, d.before a0 Z = true) : (Jvm.Cond.laysFinal "com/example/larch/larch/model/Interval" "com/example/larch/larch/model/Interval" "length" "I").before a0 Z = true := hw _ (List.mem_of_getElem? (i := 41) rfl)
theorem wd42 {a0 : Array Value} {Z : State} (hw : ∀ d ∈ tables_1, d.before a0 Z = true) : (Jvm.Cond.methodLink "com/example/larch/larch/model/IntervalEqualsPinLaw" (40 : Nat) ({ cls := "com/example/larch/larch/model/Interval", name := "equals", desc := "(Ljava/lang/Object;)Z" } : Jvm.MethodName)).before a0 Z = true := hw _ (List.mem_of_getElem? (i := 42) rfl)
theorem wd43 {a0 : Array Value} {Z : State} (hw : ∀ d ∈ tables_1, d.before a0 Z = true) : (Jvm.Cond.declares ({ cls := "com/example/larch/larch/model/Interval", name := "equals", desc := "(Ljava/lang/Object;)Z" } : Jvm.MethodName)).before a0 Z = true := hw _ (List.mem_of_getElem? (i := 43) rfl)
theorem wd44 {a0 : Array Value} {Z : State} (hw : ∀ d ∈ tables_1, d.before a0 Z = true) : (Jvm.Cond.instanceMethod ({ cls := "com/example/larch/larch/model/Interval", name := "equals", desc := "(Ljava/lang/Object;)Z" } : Jvm.MethodName)).before a0 Z = true := hw _ (List.mem_of_getElem? (i := 44) rfl)
theorem wd45 {a0 : Array Value} {Z : State} (hw : ∀ d ∈ tables_1, d.before a0 Z = true) : (Jvm.Cond.selects "com/example/larch/larch/model/Interval" ({ cls := "com/example/larch/larch/model/Interval", name := "equals", desc := "(Ljava/lang/Object;)Z" } : Jvm.MethodName) ({ cls := "com/example/larch/larch/model/Interval", name := "equals", desc := "(Ljava/lang/Object;)Z" } : Jvm.MethodName)).before a0 Z = true := hw _ (List.mem_of_getElem? (i := 45) rfl)
theorem wd46 {a0 : Array Value} {Z : State} (hw : ∀ d ∈ tables_1, d.before a0 Z = true) : (Jvm.Cond.code ({ cls := "com/example/larch/larch/model/Interval", name := "equals", desc := "(Ljava/lang/Object;)Z" } : Jvm.MethodName) prog_7_method_6_code (4 : Nat) (Option.some Jvm.ClassFile.FieldType.boolean)).before a0 Z = true := hw _ (List.mem_of_getElem? (i := 46) rfl)
theorem wd47 {a0 : Array Value} {Z : State} (hw : ∀ d ∈ tables_1, d.before a0 Z = true) : (Jvm.Cond.classLink "com/example/larch/larch/model/Interval" (25 : Nat) "com/example/larch/larch/model/Interval").before a0 Z = true := hw _ (List.mem_of_getElem? (i := 47) rfl)
theorem wd49 {a0 : Array Value} {Z : State} (hw : ∀ d ∈ tables_1, d.before a0 Z = true) : (Jvm.Cond.methodLink "com/example/larch/larch/model/IntervalEqualsPinLaw" (34 : Nat) ({ cls := "java/lang/Integer", name := "valueOf", desc := "(I)Ljava/lang/Integer;" } : Jvm.MethodName)).before a0 Z = true := hw _ (List.mem_of_getElem? (i := 49) rfl)
theorem wd50 {a0 : Array Value} {Z : State} (hw : ∀ d ∈ tables_1, d.before a0 Z = true) : (Jvm.Cond.static ({ cls := "java/lang/Integer", name := "valueOf", desc := "(I)Ljava/lang/Integer;" } : Jvm.MethodName)).before a0 Z = true := hw _ (List.mem_of_getElem? (i := 50) rfl)
theorem wd51 {a0 : Array Value} {Z : State} (hw : ∀ d ∈ tables_1, d.before a0 Z = true) : (Jvm.Cond.initialized "java/lang/Integer").before a0 Z = true := hw _ (List.mem_of_getElem? (i := 51) rfl)
theorem wd52 {a0 : Array Value} {Z : State} (hw : ∀ d ∈ tables_1, d.before a0 Z = true) : (Jvm.Cond.code ({ cls := "java/lang/Integer", name := "valueOf", desc := "(I)Ljava/lang/Integer;" } : Jvm.MethodName) jdk_33_method_22_code (1 : Nat) (Option.some (Jvm.ClassFile.FieldType.object "java/lang/Integer"))).before a0 Z = true := hw _ (List.mem_of_getElem? (i := 52) rfl)
theorem wd53 {a0 : Array Value} {Z : State} (hw : ∀ d ∈ tables_1, d.before a0 Z = true) : (Jvm.Cond.fieldLink "java/lang/Integer" (191 : Nat) "java/lang/Integer$IntegerCache" "high" "I").before a0 Z = true := hw _ (List.mem_of_getElem? (i := 53) rfl)
theorem wd54 {a0 : Array Value} {Z : State} (hw : ∀ d ∈ tables_1, d.before a0 Z = true) : (Jvm.Cond.initialized "java/lang/Integer$IntegerCache").before a0 Z = true := hw _ (List.mem_of_getElem? (i := 54) rfl)
theorem wd55 {a0 : Array Value} {Z : State} (hw : ∀ d ∈ tables_1, d.before a0 Z = true) : (Jvm.Cond.classLink "java/lang/Integer" (1 : Nat) "java/lang/Integer").before a0 Z = true := hw _ (List.mem_of_getElem? (i := 55) rfl)
theorem wd56 {a0 : Array Value} {Z : State} (hw : ∀ d ∈ tables_1, d.before a0 Z = true) : (Jvm.Cond.instantiable "java/lang/Integer" (1 : Nat)).before a0 Z = true := hw _ (List.mem_of_getElem? (i := 56) rfl)
theorem wd57 {a0 : Array Value} {Z : State} (hw : ∀ d ∈ tables_1, d.before a0 Z = true) : (Jvm.Cond.methodLink "java/lang/Integer" (199 : Nat) ({ cls := "java/lang/Integer", name := "<init>", desc := "(I)V" } : Jvm.MethodName)).before a0 Z = true := hw _ (List.mem_of_getElem? (i := 57) rfl)
theorem wd58 {a0 : Array Value} {Z : State} (hw : ∀ d ∈ tables_1, d.before a0 Z = true) : (Jvm.Cond.instanceMethod ({ cls := "java/lang/Integer", name := "<init>", desc := "(I)V" } : Jvm.MethodName)).before a0 Z = true := hw _ (List.mem_of_getElem? (i := 58) rfl)
theorem wd60 {a0 : Array Value} {Z : State} (hw : ∀ d ∈ tables_1, d.before a0 Z = true) : (Jvm.Cond.code ({ cls := "java/lang/Integer", name := "<init>", desc := "(I)V" } : Jvm.MethodName) jdk_33_method_23_code (2 : Nat) (Option.none : Option Jvm.ClassFile.FieldType)).before a0 Z = true := hw _ (List.mem_of_getElem? (i := 60) rfl)
theorem wd61 {a0 : Array Value} {Z : State} (hw : ∀ d ∈ tables_1, d.before a0 Z = true) : (Jvm.Cond.methodLink "java/lang/Integer" (202 : Nat) ({ cls := "java/lang/Number", name := "<init>", desc := "()V" } : Jvm.MethodName)).before a0 Z = true := hw _ (List.mem_of_getElem? (i := 61) rfl)
theorem wd62 {a0 : Array Value} {Z : State} (hw : ∀ d ∈ tables_1, d.before a0 Z = true) : (Jvm.Cond.instanceMethod ({ cls := "java/lang/Number", name := "<init>", desc := "()V" } : Jvm.MethodName)).before a0 Z = true := hw _ (List.mem_of_getElem? (i := 62) rfl)
theorem wd65 {a0 : Array Value} {Z : State} (hw : ∀ d ∈ tables_1, d.before a0 Z = true) : (Jvm.Cond.initialized "java/lang/Number").before a0 Z = true := hw _ (List.mem_of_getElem? (i := 65) rfl)
theorem wd66 {a0 : Array Value} {Z : State} (hw : ∀ d ∈ tables_1, d.before a0 Z = true) : (Jvm.Cond.code ({ cls := "java/lang/Number", name := "<init>", desc := "()V" } : Jvm.MethodName) jdk_18_method_1_code (1 : Nat) (Option.none : Option Jvm.ClassFile.FieldType)).before a0 Z = true := hw _ (List.mem_of_getElem? (i := 66) rfl)
theorem wd67 {a0 : Array Value} {Z : State} (hw : ∀ d ∈ tables_1, d.before a0 Z = true) : (Jvm.Cond.methodLink "java/lang/Number" (1 : Nat) ({ cls := "java/lang/Object", name := "<init>", desc := "()V" } : Jvm.MethodName)).before a0 Z = true := hw _ (List.mem_of_getElem? (i := 67) rfl)
theorem wd68 {a0 : Array Value} {Z : State} (hw : ∀ d ∈ tables_1, d.before a0 Z = true) : (Jvm.Cond.fieldLink "java/lang/Integer" (205 : Nat) "java/lang/Integer" "value" "I").before a0 Z = true := hw _ (List.mem_of_getElem? (i := 68) rfl)
theorem wd69 {a0 : Array Value} {Z : State} (hw : ∀ d ∈ tables_1, d.before a0 Z = true) : (Jvm.Cond.laysFinal "java/lang/Integer" "java/lang/Integer" "value" "I").before a0 Z = true := hw _ (List.mem_of_getElem? (i := 69) rfl)
theorem wd70 {a0 : Array Value} {Z : State} (hw : ∀ d ∈ tables_1, d.before a0 Z = true) : (Jvm.Cond.superclass "java/lang/Integer" "java/lang/Number").before a0 Z = true := hw _ (List.mem_of_getElem? (i := 70) rfl)
theorem wd71 {a0 : Array Value} {Z : State} (hw : ∀ d ∈ tables_1, d.before a0 Z = true) : (Jvm.Cond.superclass "java/lang/Number" "java/lang/Object").before a0 Z = true := hw _ (List.mem_of_getElem? (i := 71) rfl)
theorem wd72 {a0 : Array Value} {Z : State} (hw : ∀ d ∈ tables_1, d.before a0 Z = true) : (Jvm.Cond.noSuperclass "java/lang/Object").before a0 Z = true := hw _ (List.mem_of_getElem? (i := 72) rfl)
theorem wd73 {a0 : Array Value} {Z : State} (hw : ∀ d ∈ tables_1, d.before a0 Z = true) : (Jvm.Cond.fieldLink "java/lang/Integer" (195 : Nat) "java/lang/Integer$IntegerCache" "cache" "[Ljava/lang/Integer;").before a0 Z = true := hw _ (List.mem_of_getElem? (i := 73) rfl)
theorem d1_0 : decode jdk_29_method_65_code 0 = .ok (.iload_n 0, 1) := by decide +kernel
theorem d1_1 : decode jdk_29_method_65_code 1 = .ok (.iload_n 1, 1) := by decide +kernel
theorem d1_2 : decode jdk_29_method_65_code 2 = .ok (.if_icmp .lt 7, 3) := by decide +kernel
theorem d1_9 : decode jdk_29_method_65_code 9 = .ok (.iload_n 1, 1) := by decide +kernel
theorem d1_10 : decode jdk_29_method_65_code 10 = .ok (.ireturn, 1) := by decide +kernel
theorem ef_1_0 (m : MethodId) (x0 : Int32) (x1 : Int32) : entryFrame m #[(.int x0), (.int x1)] 2 = mkF m 0 #[.val (.int x0), .val (.int x1)] [] := by first | (simp [entryFrame, mkF, argsToLocals, Value.category]; done) | rfl
def Q_rm1_0 (Z : State) (p1 : Int32) (p2 : Int32) (h0 : Heap) (n0 : Nat) (v : Option Value) (h : Heap) (L : List Loc) : Prop := v = some (.int p2) ∧ Fr n0 L ∧ h = h0
set_option maxRecDepth 65536 in
set_option maxHeartbeats 40000000 in
theorem rm1_0 (l : Launch) (Z : State) (a0 : Array Value) (hw : ∀ d ∈ tables_1, d.before a0 Z = true) (ws : List Jvm.Cond) (p1 : Int32) (p2 : Int32) (h0 : Heap) (n0 : Nat) (OL0 : Old Z n0 h0) (pr1 : p1 < p2) :
    MetFree l (⟨"java/lang/Math", "max", "(II)I"⟩ : MethodName) (head1 (Jvm.Cond.code (⟨"java/lang/Math", "max", "(II)I"⟩ : MethodName) jdk_29_method_65_code 2 (some .int) :: ws) ({ frames := 0, cells := 0, slots := 0, locals := 0 } : Room)) (fun a U => a = #[(.int p1), (.int p2)] ∧ Z.Warmed39 U.vm ∧ U.heap = h0) (fun _ _ _ _ _ => True) (fun _ U o U' => ∃ v L, o = .returned v ∧ Q_rm1_0 Z p1 p2 h0 n0 v U'.heap L ∧ FrameEnd U o U' L ({ frames := 0, cells := 0, slots := 0, locals := 0 } : Room).cells ({ frames := 0, cells := 0, slots := 0, locals := 0 } : Room).slots) := by
  refine MetFree.of_bodySF (Jvm.Free.JP.mathPlain rfl (by decide +kernel)) hisR ?_
  intro p e s m args below meth c s₁ Bd hml0 hP hK
  obtain ⟨rfl, hZ, hh⟩ := hP
  have hx := Bd.exec
  have hby := Bd.bytes
  have hml : c.maxLocals = 2 := hml0
  have hown : s.vm.findClass "java/lang/Math" = some m.cls := findClass_of_methodNamed Bd.named
  have hnm := (name_of_methodNamed Bd.named Bd.method).1
  have X0 : Stand p l e ({ frames := 0, cells := 0, slots := 0, locals := 0 } : Room) s m #[(.int p1), (.int p2)] below meth c s₁ [] 0 0 := Stand.of_body Bd
  have e0 : s₁.heap = h0 := by rw [← hh, Bd.state]; rfl
  have N0 := Fr.nil n0
  have pre0 : ∀ t, Steps p.tables e below (s₁.setTop (mkF m 0 #[.val (.int p1), .val (.int p2)] [])) t → Steps p.tables e below (s₁.setTop (entryFrame m #[(.int p1), (.int p2)] 2)) t := fun t k => castTop (ef_1_0 m p1 p2) k
  obtain ⟨fs, hr, hrun, hended, hW, hsame⟩ := X0.leave (v := some (.int p2)) (fun h => by rw [Bd.returns] at h; cases h)
  refine ⟨_, _, pre0 _ ?_, hrun, hended, _, _, rfl, ?_, ⟨_, rfl⟩, hW, hsame.mono (by decide) (by decide)⟩
  · show Steps p.tables e below (s₁.setTop (mkF m 0 #[.val (.int p1), .val (.int p2)] [])) _
    refine XS.iloadN X0.here hx rfl (hb hby d1_0) rfl ?_
    refine XS.iloadN X0.here hx rfl (hb hby d1_1) rfl ?_
    show Steps p.tables e below (s₁.setTop (mkF m 2 #[.val (.int p1), .val (.int p2)] [(.int p2), (.int p1)])) _
    refine XS.icmpYes X0.here hx rfl (pc0 := 2) (pc' := 9) rfl (hb hby d1_2) rfl (tlt pr1).1 (by decide) (by decide) ?_
    show Steps p.tables e below (s₁.setTop (mkF m 9 #[.val (.int p1), .val (.int p2)] [])) _
    refine XS.iloadN X0.here hx rfl (hb hby d1_9) rfl ?_
    show Steps p.tables e below (s₁.setTop (mkF m 10 #[.val (.int p1), .val (.int p2)] [(.int p2)])) _
    exact retI X0 hx Bd.returns (hb hby d1_10) hr
  · show Q_rm1_0 Z p1 p2 h0 n0 _ s₁.heap _
    rw [e0]
    exact ⟨rfl, N0, rfl⟩
theorem d1_5 : decode jdk_29_method_65_code 5 = .ok (.iload_n 0, 1) := by decide +kernel
theorem d1_6 : decode jdk_29_method_65_code 6 = .ok (.goto 4, 3) := by decide +kernel
def Q_rm1_1 (Z : State) (p1 : Int32) (p2 : Int32) (h0 : Heap) (n0 : Nat) (v : Option Value) (h : Heap) (L : List Loc) : Prop := v = some (.int p1) ∧ Fr n0 L ∧ h = h0
set_option maxRecDepth 65536 in
set_option maxHeartbeats 40000000 in
theorem rm1_1 (l : Launch) (Z : State) (a0 : Array Value) (hw : ∀ d ∈ tables_1, d.before a0 Z = true) (ws : List Jvm.Cond) (p1 : Int32) (p2 : Int32) (h0 : Heap) (n0 : Nat) (OL0 : Old Z n0 h0) (pr1 : ¬ (p1 < p2)) :
    MetFree l (⟨"java/lang/Math", "max", "(II)I"⟩ : MethodName) (head1 (Jvm.Cond.code (⟨"java/lang/Math", "max", "(II)I"⟩ : MethodName) jdk_29_method_65_code 2 (some .int) :: ws) ({ frames := 0, cells := 0, slots := 0, locals := 0 } : Room)) (fun a U => a = #[(.int p1), (.int p2)] ∧ Z.Warmed39 U.vm ∧ U.heap = h0) (fun _ _ _ _ _ => True) (fun _ U o U' => ∃ v L, o = .returned v ∧ Q_rm1_1 Z p1 p2 h0 n0 v U'.heap L ∧ FrameEnd U o U' L ({ frames := 0, cells := 0, slots := 0, locals := 0 } : Room).cells ({ frames := 0, cells := 0, slots := 0, locals := 0 } : Room).slots) := by
  refine MetFree.of_bodySF (Jvm.Free.JP.mathPlain rfl (by decide +kernel)) hisR ?_
  intro p e s m args below meth c s₁ Bd hml0 hP hK
  obtain ⟨rfl, hZ, hh⟩ := hP
  have hx := Bd.exec
  have hby := Bd.bytes
  have hml : c.maxLocals = 2 := hml0
  have hown : s.vm.findClass "java/lang/Math" = some m.cls := findClass_of_methodNamed Bd.named
  have hnm := (name_of_methodNamed Bd.named Bd.method).1
  have X0 : Stand p l e ({ frames := 0, cells := 0, slots := 0, locals := 0 } : Room) s m #[(.int p1), (.int p2)] below meth c s₁ [] 0 0 := Stand.of_body Bd
  have e0 : s₁.heap = h0 := by rw [← hh, Bd.state]; rfl
  have N0 := Fr.nil n0
  have pre0 : ∀ t, Steps p.tables e below (s₁.setTop (mkF m 0 #[.val (.int p1), .val (.int p2)] [])) t → Steps p.tables e below (s₁.setTop (entryFrame m #[(.int p1), (.int p2)] 2)) t := fun t k => castTop (ef_1_0 m p1 p2) k
  obtain ⟨fs, hr, hrun, hended, hW, hsame⟩ := X0.leave (v := some (.int p1)) (fun h => by rw [Bd.returns] at h; cases h)
  refine ⟨_, _, pre0 _ ?_, hrun, hended, _, _, rfl, ?_, ⟨_, rfl⟩, hW, hsame.mono (by decide) (by decide)⟩
  · show Steps p.tables e below (s₁.setTop (mkF m 0 #[.val (.int p1), .val (.int p2)] [])) _
    refine XS.iloadN X0.here hx rfl (hb hby d1_0) rfl ?_
    refine XS.iloadN X0.here hx rfl (hb hby d1_1) rfl ?_
    show Steps p.tables e below (s₁.setTop (mkF m 2 #[.val (.int p1), .val (.int p2)] [(.int p2), (.int p1)])) _
    refine XS.icmpNo X0.here hx rfl (hb hby d1_2) rfl (flt pr1).1 ?_
    show Steps p.tables e below (s₁.setTop (mkF m 5 #[.val (.int p1), .val (.int p2)] [])) _
    refine XS.iloadN X0.here hx rfl (hb hby d1_5) rfl ?_
    refine XS.goto X0.here hx rfl (pc0 := 6) (pc' := 10) rfl (hb hby d1_6) (by decide) (by decide) ?_
    show Steps p.tables e below (s₁.setTop (mkF m 10 #[.val (.int p1), .val (.int p2)] [(.int p1)])) _
    exact retI X0 hx Bd.returns (hb hby d1_10) hr
  · show Q_rm1_1 Z p1 p2 h0 n0 _ s₁.heap _
    rw [e0]
    exact ⟨rfl, N0, rfl⟩
def Q_mg_own_imax (Z : State) (x y : Int32) (h0 : Heap) (n0 : Nat) (v : Option Value) (h : Heap) (L : List Loc) : Prop := v = some (.int (own_imax x y)) ∧ Fr n0 L ∧ h = h0
theorem mg_own_imax (l : Launch) (Z : State) (a0 : Array Value) (hw : ∀ d ∈ tables_1, d.before a0 Z = true) (ws : List Jvm.Cond) (x y : Int32) (h0 : Heap) (n0 : Nat) (OL0 : Old Z n0 h0) :
    MetFree l (⟨"java/lang/Math", "max", "(II)I"⟩ : MethodName) (head1 (Jvm.Cond.code (⟨"java/lang/Math", "max", "(II)I"⟩ : MethodName) jdk_29_method_65_code 2 (some .int) :: ws) ({ frames := 0, cells := 0, slots := 0, locals := 0 } : Room)) (fun a U => a = #[(.int x), (.int y)] ∧ Z.Warmed39 U.vm ∧ U.heap = h0) (fun _ _ _ _ _ => True) (fun _ U o U' => ∃ v L, o = .returned v ∧ Q_mg_own_imax Z x y h0 n0 v U'.heap L ∧ FrameEnd U o U' L ({ frames := 0, cells := 0, slots := 0, locals := 0 } : Room).cells ({ frames := 0, cells := 0, slots := 0, locals := 0 } : Room).slots) := by
  by_cases hc : x < y
  · have e : own_imax x y = _ := if_pos hc
    unfold Q_mg_own_imax
    rw [e]
    exact rm1_0 l Z a0 hw ws x y h0 n0 OL0 hc
  · have e : own_imax x y = _ := if_neg hc
    unfold Q_mg_own_imax
    rw [e]
    exact rm1_1 l Z a0 hw ws x y h0 n0 OL0 hc
theorem pd_0 : parseMethodDescriptor "(II)I" = some ⟨[.int, .int], some .int⟩ := by decide +kernel
theorem d2_0 : decode prog_7_method_1_code 0 = .ok (.aload_n 0, 1) := by decide +kernel
theorem d2_1 : decode prog_7_method_1_code 1 = .ok (.invokespecial 1, 3) := by decide +kernel
theorem d2_4 : decode prog_7_method_1_code 4 = .ok (.aload_n 1, 1) := by decide +kernel
theorem d2_5 : decode prog_7_method_1_code 5 = .ok (.ldc 7, 2) := by decide +kernel
theorem own_wS {a0 : Array Value} {Z : State} (hw : ∀ d ∈ tables_1, d.before a0 Z = true) : ∀ a ∈ Bundle.stringAtoms, a.before a0 Z = true := by
  intro d hd
  simp only [Bundle.stringAtoms, List.mem_cons, List.not_mem_nil, or_false] at hd
  rcases hd with rfl | rfl | rfl | rfl | rfl | rfl | rfl
  · exact (wd27 hw)
  · exact (wd28 hw)
  · exact (wd29 hw)
  · exact (wd30 hw)
  · exact (wd31 hw)
  · exact (wd32 hw)
  · exact (wd33 hw)
theorem d2_7 : decode prog_7_method_1_code 7 = .ok (.invokestatic 9, 3) := by decide +kernel
theorem d4_0 : decode jdk_31_method_11_code 0 = .ok (.aload_n 0, 1) := by decide +kernel
theorem d4_1 : decode jdk_31_method_11_code 1 = .ok (.ifnonnull 12, 3) := by decide +kernel
theorem d4_13 : decode jdk_31_method_11_code 13 = .ok (.aload_n 0, 1) := by decide +kernel
theorem d4_14 : decode jdk_31_method_11_code 14 = .ok (.areturn, 1) := by decide +kernel
theorem ef_4_1 (m : MethodId) (x0 : Addr) (x1 : Addr) : entryFrame m #[(.ref x0), (.ref x1)] 2 = mkF m 0 #[.val (.ref x0), .val (.ref x1)] [] := by first | (simp [entryFrame, mkF, argsToLocals, Value.category]; done) | rfl
theorem pn_0 : plainName "java/util/Objects" = true := by first | (simp [plainName, overriddenIn]; done) | decide +kernel
def Q_rm4_0 (Z : State) (w1 : Addr) (a2 : Addr) (h0 : Heap) (n0 : Nat) (v : Option Value) (h : Heap) (L : List Loc) : Prop := v = some (.ref w1) ∧ Fr n0 L ∧ h = h0
set_option maxRecDepth 65536 in
set_option maxHeartbeats 40000000 in
theorem rm4_0 (l : Launch) (Z : State) (a0 : Array Value) (hw : ∀ d ∈ tables_1, d.before a0 Z = true) (ws : List Jvm.Cond) (w1 : Addr) (a2 : Addr) (h0 : Heap) (n0 : Nat) (OL0 : Old Z n0 h0)  :
    MetFree l (⟨"java/util/Objects", "requireNonNull", "(Ljava/lang/Object;Ljava/lang/String;)Ljava/lang/Object;"⟩ : MethodName) (head1 (Jvm.Cond.code (⟨"java/util/Objects", "requireNonNull", "(Ljava/lang/Object;Ljava/lang/String;)Ljava/lang/Object;"⟩ : MethodName) jdk_31_method_11_code 2 (some (.object "java/lang/Object")) :: ws) ({ frames := 0, cells := 0, slots := 0, locals := 0 } : Room)) (fun a U => a = #[(.ref w1), (.ref a2)] ∧ Z.Warmed39 U.vm ∧ U.heap = h0) (fun _ _ _ _ _ => True) (fun _ U o U' => ∃ v L, o = .returned v ∧ Q_rm4_0 Z w1 a2 h0 n0 v U'.heap L ∧ FrameEnd U o U' L ({ frames := 0, cells := 0, slots := 0, locals := 0 } : Room).cells ({ frames := 0, cells := 0, slots := 0, locals := 0 } : Room).slots) := by
  refine MetFree.of_bodySF (plainFor_of_name pn_0) hisR ?_
  intro p e s m args below meth c s₁ Bd hml0 hP hK
  obtain ⟨rfl, hZ, hh⟩ := hP
  have hx := Bd.exec
  have hby := Bd.bytes
  have hml : c.maxLocals = 2 := hml0
  have hown : s.vm.findClass "java/util/Objects" = some m.cls := findClass_of_methodNamed Bd.named
  have hnm := (name_of_methodNamed Bd.named Bd.method).1
  have X0 : Stand p l e ({ frames := 0, cells := 0, slots := 0, locals := 0 } : Room) s m #[(.ref w1), (.ref a2)] below meth c s₁ [] 0 0 := Stand.of_body Bd
  have e0 : s₁.heap = h0 := by rw [← hh, Bd.state]; rfl
  have N0 := Fr.nil n0
  have pre0 : ∀ t, Steps p.tables e below (s₁.setTop (mkF m 0 #[.val (.ref w1), .val (.ref a2)] [])) t → Steps p.tables e below (s₁.setTop (entryFrame m #[(.ref w1), (.ref a2)] 2)) t := fun t k => castTop (ef_4_1 m w1 a2) k
  obtain ⟨fs, hr, hrun, hended, hW, hsame⟩ := X0.leave (v := some (.ref w1)) (fun h => by rw [Bd.returns] at h; cases h)
  refine ⟨_, _, pre0 _ ?_, hrun, hended, _, _, rfl, ?_, ⟨_, rfl⟩, hW, hsame.mono (by decide) (by decide)⟩
  · show Steps p.tables e below (s₁.setTop (mkF m 0 #[.val (.ref w1), .val (.ref a2)] [])) _
    refine XS.aloadN X0.here hx rfl (hb hby d4_0) rfl rfl ?_
    show Steps p.tables e below (s₁.setTop (mkF m 1 #[.val (.ref w1), .val (.ref a2)] [(.ref w1)])) _
    refine XS.ifnonnullYes X0.here hx rfl (pc0 := 1) (pc' := 13) rfl (hb hby d4_1) rfl (by decide) (by decide) ?_
    show Steps p.tables e below (s₁.setTop (mkF m 13 #[.val (.ref w1), .val (.ref a2)] [])) _
    refine XS.aloadN X0.here hx rfl (hb hby d4_13) rfl rfl ?_
    show Steps p.tables e below (s₁.setTop (mkF m 14 #[.val (.ref w1), .val (.ref a2)] [(.ref w1)])) _
    jvm_step X0.here [X0.here.top, hx, (hb hby d4_14), X0.method', Bd.returns, Value.isRef, FieldType.isReference]
    first | (intro acts; rw [hr _ acts rfl rfl rfl]) | rw [hr _ _ rfl rfl rfl]
    exact Steps.refl _
  · show Q_rm4_0 Z w1 a2 h0 n0 _ s₁.heap _
    rw [e0]
    exact ⟨rfl, N0, rfl⟩
theorem pd_1 : parseMethodDescriptor "(Ljava/lang/Object;Ljava/lang/String;)Ljava/lang/Object;" = some ⟨[(.object "java/lang/Object"), (.object "java/lang/String")], some (.object "java/lang/Object")⟩ := by decide +kernel
theorem d2_10 : decode prog_7_method_1_code 10 = .ok (.pop, 1) := by decide +kernel
theorem d2_11 : decode prog_7_method_1_code 11 = .ok (.iload_n 2, 1) := by decide +kernel
theorem d2_12 : decode prog_7_method_1_code 12 = .ok (.iconst 1, 1) := by decide +kernel
theorem d2_13 : decode prog_7_method_1_code 13 = .ok (.if_icmp .ge 17, 3) := by decide +kernel
theorem d2_30 : decode prog_7_method_1_code 30 = .ok (.aload_n 0, 1) := by decide +kernel
theorem d2_31 : decode prog_7_method_1_code 31 = .ok (.aload_n 1, 1) := by decide +kernel
theorem d2_32 : decode prog_7_method_1_code 32 = .ok (.putfield 24, 3) := by decide +kernel
theorem d2_35 : decode prog_7_method_1_code 35 = .ok (.aload_n 0, 1) := by decide +kernel
theorem d2_36 : decode prog_7_method_1_code 36 = .ok (.iload_n 2, 1) := by decide +kernel
theorem d2_37 : decode prog_7_method_1_code 37 = .ok (.putfield 29, 3) := by decide +kernel
theorem d2_40 : decode prog_7_method_1_code 40 = .ok (.return_, 1) := by decide +kernel
theorem ef_2_2 (m : MethodId) (x0 : Addr) (x1 : Addr) (x2 : Int32) : entryFrame m #[(.ref x0), (.ref x1), (.int x2)] 3 = mkF m 0 #[.val (.ref x0), .val (.ref x1), .val (.int x2)] [] := by first | (simp [entryFrame, mkF, argsToLocals, Value.category]; done) | rfl
theorem pn_1 : plainName "com/example/larch/larch/model/Interval" = true := by first | (simp [plainName, overriddenIn]; done) | decide +kernel
def Q_rm2_0 (Z : State) (a1 : Addr) (w2 : Addr) (p3 : Int32) (h0 : Heap) (n0 : Nat) (v : Option Value) (h : Heap) (L : List Loc) : Prop := v = none ∧ Fr n0 L ∧ Keep h0 h [a1] ∧ Fld Z h a1 "com/example/larch/larch/model/Interval" "unit" "Lcom/example/larch/larch/model/IntervalUnit;" (.ref w2) ∧ Fld Z h a1 "com/example/larch/larch/model/Interval" "length" "I" (.int p3)
set_option maxRecDepth 65536 in
set_option maxHeartbeats 40000000 in
theorem rm2_0 (l : Launch) (Z : State) (a0 : Array Value) (hw : ∀ d ∈ tables_1, d.before a0 Z = true) (ws : List Jvm.Cond) (a1 : Addr) (w2 : Addr) (p3 : Int32) (h0 : Heap) (n0 : Nat) (OL0 : Old Z n0 h0) (pr1 : ¬ (p3 < (1 : Int32))) (pr2 : Exa Z h0 a1 "com/example/larch/larch/model/Interval") (pr3 : Fld Z h0 a1 "com/example/larch/larch/model/Interval" "unit" "Lcom/example/larch/larch/model/IntervalUnit;" .null) (pr4 : n0 ≤ a1) (pr5 : Fld Z h0 a1 "com/example/larch/larch/model/Interval" "length" "I" (.int (0 : Int32))) :
    MetFree l (⟨"com/example/larch/larch/model/Interval", "<init>", "(Lcom/example/larch/larch/model/IntervalUnit;I)V"⟩ : MethodName) (head1 (Jvm.Cond.code (⟨"com/example/larch/larch/model/Interval", "<init>", "(Lcom/example/larch/larch/model/IntervalUnit;I)V"⟩ : MethodName) prog_7_method_1_code 3 none :: ws) ({ frames := 1, cells := 2, slots := 20, locals := 13 } : Room)) (fun a U => a = #[(.ref a1), (.ref w2), (.int p3)] ∧ Z.Warmed39 U.vm ∧ U.heap = h0) (fun _ _ _ _ _ => True) (fun _ U o U' => ∃ v L, o = .returned v ∧ Q_rm2_0 Z a1 w2 p3 h0 n0 v U'.heap L ∧ ReturnedEndW U o U' L ({ frames := 1, cells := 2, slots := 20, locals := 13 } : Room).cells ({ frames := 1, cells := 2, slots := 20, locals := 13 } : Room).slots) := by
  refine MetFree.of_bodySF (plainFor_of_name pn_1) hisR ?_
  intro p e s m args below meth c s₁ Bd hml0 hP hK
  obtain ⟨rfl, hZ, hh⟩ := hP
  have hx := Bd.exec
  have hby := Bd.bytes
  have hml : c.maxLocals = 3 := hml0
  have hown : s.vm.findClass "com/example/larch/larch/model/Interval" = some m.cls := findClass_of_methodNamed Bd.named
  have hnm := (name_of_methodNamed Bd.named Bd.method).1
  have X0 : Stand p l e ({ frames := 1, cells := 2, slots := 20, locals := 13 } : Room) s m #[(.ref a1), (.ref w2), (.int p3)] below meth c s₁ [] 0 0 := Stand.of_body Bd
  have e0 : s₁.heap = h0 := by rw [← hh, Bd.state]; rfl
  have N0 := Fr.nil n0
  have pre0 : ∀ t, Steps p.tables e below (s₁.setTop (mkF m 0 #[.val (.ref a1), .val (.ref w2), .val (.int p3)] [])) t → Steps p.tables e below (s₁.setTop (entryFrame m #[(.ref a1), (.ref w2), (.int p3)] 3)) t := fun t k => castTop (ef_2_2 m a1 w2 p3) k
  obtain ⟨T4, X4, e4, st4⟩ := initO X0 hx hZ hown (wd23 hw) (wd24 hw) (wd25 hw) e0 (g := (mkF m 1 #[.val (.ref a1), .val (.ref w2), .val (.int p3)] [(.ref a1)])) rfl (by rw [hml]; rfl) rfl (hb hby d2_1) (by decide) (W := 0) (by show 2 * 0 + _ ≤ _; exact Nat.le_of_eq rfl) (by decide)
  obtain ⟨b5, T5, h5, k5, X5, e5, E5, hS5, hk5, hZ5, hown5, st5⟩ := ldcS (s := s) (vm0 := s.vm) X4 hx hZ hown (wd26 hw) (own_wS hw) e4 ((State.WarmedH.refl s).since 0) (Nat.zero_le _) (g := (mkF m 5 #[.val (.ref a1), .val (.ref w2), .val (.int p3)] [(.ref w2)])) rfl (hb hby d2_5) (n := 16) (by decide) (by decide) (by decide) (by decide)
  have KK5 : Keep h0 h5 [a1] := (Keep.refl h0 [a1]).ext E5
  have OL5 := OL0.ext E5
  obtain ⟨_, _, ⟨T6, L6, k6, n6⟩, -, X6, ⟨Lc6, hQ6, l6, y6, z6⟩, st6⟩ := Jvm.LawKit.callS X5 hx (y := (⟨"java/util/Objects", "requireNonNull", "(Ljava/lang/Object;Ljava/lang/String;)Ljava/lang/Object;"⟩ : MethodName)) hown5 (mvT hZ5 (wd34 hw)) (mvT hZ5 (wd35 hw)) (mvT hZ5 (wd36 hw)) (mvT hZ5 (wd37 hw)) (by decide) (backOf (W := 0) (rm4_0 l Z a0 hw [] w2 b5 h5 n0 OL5 ) hZ5 (wd37 hw) (wd36 hw) (by decide) (by decide)) (g := (mkF m 7 #[.val (.ref a1), .val (.ref w2), .val (.int p3)] [(.ref b5), (.ref w2)])) rfl (by rw [hml]; rfl) (argsL := [(.ref w2), (.ref b5)]) (rest := []) (lenOf pd_1 rfl) rfl (by show 2 * 0 + _ ≤ _; exact Nat.le_of_eq rfl) (hb hby d2_7) (fun _ _ => ⟨rfl, e5, (by decide : 2 + 0 ≤ _), (by decide : 20 + 0 ≤ _)⟩)
  dsimp only [Pt.U, Pt.locs, Pt.cells, Pt.slots] at X6 l6 y6 z6 st6 hQ6
  subst l6 y6 z6
  obtain ⟨rfl, Nq6, ec6⟩ := hQ6
  have N6 := Fr.app N0 Nq6
  have fc7 := (pr2.ext E5)
  have fc8 := (pr3.ext E5)
  obtain ⟨T9, h9, X9, e9, W9, st9⟩ := putF X6 hx hZ5 hown5 (host := "") (Or.inl (wd38 hw)) Via.refl ec6 fc8 fc7 (Or.inr ⟨(wd39 hw), rfl, hnm⟩) (wd18 hw) (ty := (.object "com/example/larch/larch/model/IntervalUnit")) (by decide) rfl rfl (g := (mkF m 32 #[.val (.ref a1), .val (.ref w2), .val (.int p3)] [(.ref w2), (.ref a1)])) rfl rfl (hb hby d2_32)
  have Fw9 := fc8.same W9
  have KK9 : Keep h0 h9 [a1] := KK5.wr W9 (Or.inl (List.mem_of_getElem? (i := 0) rfl))
  have OL9 := OL5.wr W9 pr4
  have N9 := Fr.snoc X9 N6 pr4
  have fc10 := (fc7.wr W9)
  have fc11 := ((pr5.ext E5).other W9 (Or.inr (slot_ne (Or.inr (wd41 hw)) (Or.inr (wd39 hw)) (by decide) (t := .int) (t' := (.object "com/example/larch/larch/model/IntervalUnit")) (by decide) (by decide))))
  obtain ⟨T12, h12, X12, e12, W12, st12⟩ := putF X9 hx hZ5 hown5 (host := "") (Or.inl (wd40 hw)) Via.refl e9 fc11 fc10 (Or.inr ⟨(wd41 hw), rfl, hnm⟩) (wd18 hw) (ty := .int) (by decide) rfl rfl (g := (mkF m 37 #[.val (.ref a1), .val (.ref w2), .val (.int p3)] [(.int p3), (.ref a1)])) rfl rfl (hb hby d2_37)
  have Fw12 := fc11.same W12
  have KK12 : Keep h0 h12 [a1] := KK9.wr W12 (Or.inl (List.mem_of_getElem? (i := 0) rfl))
  have OL12 := OL9.wr W12 pr4
  have N12 := Fr.snoc X12 N9 pr4
  have fc13 := (Fw9.other W12 (Or.inr (slot_ne (Or.inr (wd39 hw)) (Or.inr (wd41 hw)) (by decide) (t := (.object "com/example/larch/larch/model/IntervalUnit")) (t' := .int) (by decide) (by decide))))
  obtain ⟨fs, hr, hrun, hended, hRW⟩ := X12.leaveW (s := s) hS5 (by rw [e12]; exact (Nat.le_trans (Nat.le_trans hk5 (Nat.le_of_eq W9.size.symm)) (Nat.le_of_eq W12.size.symm))) (v := none) (fun _ => rfl)
  refine ⟨_, _, pre0 _ ?_, hrun, hended, _, _, rfl, ?_, hRW.1, hRW.2.1, hRW.2.2.1, hRW.2.2.2.mono (by decide) (by decide)⟩
  · show Steps p.tables e below (s₁.setTop (mkF m 0 #[.val (.ref a1), .val (.ref w2), .val (.int p3)] [])) _
    refine XS.aloadN X0.here hx rfl (hb hby d2_0) rfl rfl ?_
    show Steps p.tables e below (s₁.setTop (mkF m 1 #[.val (.ref a1), .val (.ref w2), .val (.int p3)] [(.ref a1)])) _
    refine st4 _ ?_
    show Steps p.tables e below (T4.setTop (mkF m 4 #[.val (.ref a1), .val (.ref w2), .val (.int p3)] [])) _
    refine XS.aloadN X4.here hx rfl (hb hby d2_4) rfl rfl ?_
    refine st5 _ ?_
    show Steps p.tables e below (T5.setTop (mkF m 7 #[.val (.ref a1), .val (.ref w2), .val (.int p3)] [(.ref b5), (.ref w2)])) _
    refine st6 _ ?_
    show Steps p.tables e below (T6.setTop (mkF m 10 #[.val (.ref a1), .val (.ref w2), .val (.int p3)] [(.ref w2)])) _
    refine XS.pop X6.here hx rfl (hb hby d2_10) rfl rfl ?_
    show Steps p.tables e below (T6.setTop (mkF m 11 #[.val (.ref a1), .val (.ref w2), .val (.int p3)] [])) _
    refine XS.iloadN X6.here hx rfl (hb hby d2_11) rfl ?_
    refine XS.iconst X6.here hx rfl (hb hby d2_12) ?_
    show Steps p.tables e below (T6.setTop (mkF m 13 #[.val (.ref a1), .val (.ref w2), .val (.int p3)] [(.int (1 : Int32)), (.int p3)])) _
    refine XS.icmpYes X6.here hx rfl (pc0 := 13) (pc' := 30) rfl (hb hby d2_13) rfl (flt pr1).2.1 (by decide) (by decide) ?_
    show Steps p.tables e below (T6.setTop (mkF m 30 #[.val (.ref a1), .val (.ref w2), .val (.int p3)] [])) _
    refine XS.aloadN X6.here hx rfl (hb hby d2_30) rfl rfl ?_
    refine XS.aloadN X6.here hx rfl (hb hby d2_31) rfl rfl ?_
    show Steps p.tables e below (T6.setTop (mkF m 32 #[.val (.ref a1), .val (.ref w2), .val (.int p3)] [(.ref w2), (.ref a1)])) _
    refine st9 _ ?_
    show Steps p.tables e below (T9.setTop (mkF m 35 #[.val (.ref a1), .val (.ref w2), .val (.int p3)] [])) _
    refine XS.aloadN X9.here hx rfl (hb hby d2_35) rfl rfl ?_
    refine XS.iloadN X9.here hx rfl (hb hby d2_36) rfl ?_
    show Steps p.tables e below (T9.setTop (mkF m 37 #[.val (.ref a1), .val (.ref w2), .val (.int p3)] [(.int p3), (.ref a1)])) _
    refine st12 _ ?_
    show Steps p.tables e below (T12.setTop (mkF m 40 #[.val (.ref a1), .val (.ref w2), .val (.int p3)] [])) _
    exact X12.returnOut hx Bd.returns (hb hby d2_40) hr
  · show Q_rm2_0 Z a1 w2 p3 h0 n0 _ T12.heap _
    rw [e12]
    exact ⟨rfl, N12, KK12, fc13, Fw12⟩
theorem pd_2 : parseMethodDescriptor "(Lcom/example/larch/larch/model/IntervalUnit;I)V" = some ⟨[(.object "com/example/larch/larch/model/IntervalUnit"), .int], none⟩ := by decide +kernel
theorem d5_0 : decode prog_7_method_6_code 0 = .ok (.iconst 0, 1) := by decide +kernel
theorem d5_1 : decode prog_7_method_6_code 1 = .ok (.istore_n 2, 1) := by decide +kernel
theorem d5_2 : decode prog_7_method_6_code 2 = .ok (.aload_n 1, 1) := by decide +kernel
theorem d5_3 : decode prog_7_method_6_code 3 = .ok (.instanceof 25, 3) := by decide +kernel
theorem d5_6 : decode prog_7_method_6_code 6 = .ok (.ifCond .eq 36, 3) := by decide +kernel
theorem d5_9 : decode prog_7_method_6_code 9 = .ok (.aload_n 1, 1) := by decide +kernel
theorem d5_10 : decode prog_7_method_6_code 10 = .ok (.checkcast 25, 3) := by decide +kernel
theorem d5_13 : decode prog_7_method_6_code 13 = .ok (.astore_n 3, 1) := by decide +kernel
theorem d5_14 : decode prog_7_method_6_code 14 = .ok (.aload_n 0, 1) := by decide +kernel
theorem d5_15 : decode prog_7_method_6_code 15 = .ok (.getfield 24, 3) := by decide +kernel
theorem d5_18 : decode prog_7_method_6_code 18 = .ok (.aload_n 3, 1) := by decide +kernel
theorem d5_19 : decode prog_7_method_6_code 19 = .ok (.getfield 24, 3) := by decide +kernel
theorem d5_22 : decode prog_7_method_6_code 22 = .ok (.if_acmp .ne 18, 3) := by decide +kernel
theorem d5_25 : decode prog_7_method_6_code 25 = .ok (.aload_n 0, 1) := by decide +kernel
theorem d5_26 : decode prog_7_method_6_code 26 = .ok (.getfield 29, 3) := by decide +kernel
theorem d5_29 : decode prog_7_method_6_code 29 = .ok (.aload_n 3, 1) := by decide +kernel
theorem d5_30 : decode prog_7_method_6_code 30 = .ok (.getfield 29, 3) := by decide +kernel
theorem d5_33 : decode prog_7_method_6_code 33 = .ok (.if_icmp .ne 7, 3) := by decide +kernel
theorem d5_36 : decode prog_7_method_6_code 36 = .ok (.iconst 1, 1) := by decide +kernel
theorem d5_37 : decode prog_7_method_6_code 37 = .ok (.goto 4, 3) := by decide +kernel
theorem d5_41 : decode prog_7_method_6_code 41 = .ok (.istore_n 2, 1) := by decide +kernel
theorem d5_42 : decode prog_7_method_6_code 42 = .ok (.iload_n 2, 1) := by decide +kernel
theorem d5_43 : decode prog_7_method_6_code 43 = .ok (.ireturn, 1) := by decide +kernel
theorem ef_5_3 (m : MethodId) (x0 : Addr) (x1 : Addr) : entryFrame m #[(.ref x0), (.ref x1)] 4 = mkF m 0 #[.val (.ref x0), .val (.ref x1), .unset, .unset] [] := by first | (simp [entryFrame, mkF, argsToLocals, Value.category]; done) | rfl
def Q_rm5_0 (Z : State) (a1 : Addr) (a2 : Addr) (w5 : Addr) (p8 : Int32) (p10 : Int32) (h0 : Heap) (n0 : Nat) (v : Option Value) (h : Heap) (L : List Loc) : Prop := v = some (.int (1 : Int32)) ∧ Fr n0 L ∧ h = h0
set_option maxRecDepth 65536 in
set_option maxHeartbeats 40000000 in
theorem rm5_0 (l : Launch) (Z : State) (a0 : Array Value) (hw : ∀ d ∈ tables_1, d.before a0 Z = true) (ws : List Jvm.Cond) (a1 : Addr) (a2 : Addr) (w5 : Addr) (p8 : Int32) (p10 : Int32) (h0 : Heap) (n0 : Nat) (OL0 : Old Z n0 h0) (pr1 : Exa Z h0 a2 "com/example/larch/larch/model/Interval") (pr2 : Fld Z h0 a1 "com/example/larch/larch/model/Interval" "unit" "Lcom/example/larch/larch/model/IntervalUnit;" (.ref w5)) (pr3 : Fld Z h0 a2 "com/example/larch/larch/model/Interval" "unit" "Lcom/example/larch/larch/model/IntervalUnit;" (.ref w5)) (pr4 : Fld Z h0 a1 "com/example/larch/larch/model/Interval" "length" "I" (.int p8)) (pr5 : Fld Z h0 a2 "com/example/larch/larch/model/Interval" "length" "I" (.int p10)) (pr6 : p8 = p10) :
    MetFree l (⟨"com/example/larch/larch/model/Interval", "equals", "(Ljava/lang/Object;)Z"⟩ : MethodName) (head1 (Jvm.Cond.code (⟨"com/example/larch/larch/model/Interval", "equals", "(Ljava/lang/Object;)Z"⟩ : MethodName) prog_7_method_6_code 4 (some .boolean) :: ws) ({ frames := 0, cells := 0, slots := 0, locals := 0 } : Room)) (fun a U => a = #[(.ref a1), (.ref a2)] ∧ Z.Warmed39 U.vm ∧ U.heap = h0) (fun _ _ _ _ _ => True) (fun _ U o U' => ∃ v L, o = .returned v ∧ Q_rm5_0 Z a1 a2 w5 p8 p10 h0 n0 v U'.heap L ∧ FrameEnd U o U' L ({ frames := 0, cells := 0, slots := 0, locals := 0 } : Room).cells ({ frames := 0, cells := 0, slots := 0, locals := 0 } : Room).slots) := by
  refine MetFree.of_bodySF (plainFor_of_name pn_1) hisR ?_
  intro p e s m args below meth c s₁ Bd hml0 hP hK
  obtain ⟨rfl, hZ, hh⟩ := hP
  have hx := Bd.exec
  have hby := Bd.bytes
  have hml : c.maxLocals = 4 := hml0
  have hown : s.vm.findClass "com/example/larch/larch/model/Interval" = some m.cls := findClass_of_methodNamed Bd.named
  have hnm := (name_of_methodNamed Bd.named Bd.method).1
  have X0 : Stand p l e ({ frames := 0, cells := 0, slots := 0, locals := 0 } : Room) s m #[(.ref a1), (.ref a2)] below meth c s₁ [] 0 0 := Stand.of_body Bd
  have e0 : s₁.heap = h0 := by rw [← hh, Bd.state]; rfl
  have N0 := Fr.nil n0
  have pre0 : ∀ t, Steps p.tables e below (s₁.setTop (mkF m 0 #[.val (.ref a1), .val (.ref a2), .unset, .unset] [])) t → Steps p.tables e below (s₁.setTop (entryFrame m #[(.ref a1), (.ref a2)] 4)) t := fun t k => castTop (ef_5_3 m a1 a2) k
  obtain ⟨T3, X3, e3, st3⟩ := instY X0 hx hZ hown (wd47 hw) e0 (Ins.self pr1) (g := (mkF m 3 #[.val (.ref a1), .val (.ref a2), .val (.int (0 : Int32)), .unset] [(.ref a2)])) rfl rfl (hb hby d5_3)
  obtain ⟨T4, X4, e4, st4⟩ := castY X3 hx hZ hown (wd47 hw) e3 (Ins.self pr1) (g := (mkF m 10 #[.val (.ref a1), .val (.ref a2), .val (.int (0 : Int32)), .unset] [(.ref a2)])) rfl rfl (hb hby d5_10)
  obtain ⟨T6, X6, e6, st6⟩ := getF X4 hx hZ hown (host := "") (Or.inl (wd38 hw)) Via.refl e4 pr2 (g := (mkF m 15 #[.val (.ref a1), .val (.ref a2), .val (.int (0 : Int32)), .val (.ref a2)] [(.ref a1)])) rfl rfl (hb hby d5_15)
  obtain ⟨T7, X7, e7, st7⟩ := getF X6 hx hZ hown (host := "") (Or.inl (wd38 hw)) Via.refl e6 pr3 (g := (mkF m 19 #[.val (.ref a1), .val (.ref a2), .val (.int (0 : Int32)), .val (.ref a2)] [(.ref a2), (.ref w5)])) rfl rfl (hb hby d5_19)
  obtain ⟨T9, X9, e9, st9⟩ := getF X7 hx hZ hown (host := "") (Or.inl (wd40 hw)) Via.refl e7 pr4 (g := (mkF m 26 #[.val (.ref a1), .val (.ref a2), .val (.int (0 : Int32)), .val (.ref a2)] [(.ref a1)])) rfl rfl (hb hby d5_26)
  obtain ⟨T11, X11, e11, st11⟩ := getF X9 hx hZ hown (host := "") (Or.inl (wd40 hw)) Via.refl e9 pr5 (g := (mkF m 30 #[.val (.ref a1), .val (.ref a2), .val (.int (0 : Int32)), .val (.ref a2)] [(.ref a2), (.int p8)])) rfl rfl (hb hby d5_30)
  obtain ⟨fs, hr, hrun, hended, hW, hsame⟩ := X11.leave (v := some (.int (1 : Int32))) (fun h => by rw [Bd.returns] at h; cases h)
  refine ⟨_, _, pre0 _ ?_, hrun, hended, _, _, rfl, ?_, ⟨_, rfl⟩, hW, hsame.mono (by decide) (by decide)⟩
  · show Steps p.tables e below (s₁.setTop (mkF m 0 #[.val (.ref a1), .val (.ref a2), .unset, .unset] [])) _
    refine XS.iconst X0.here hx rfl (hb hby d5_0) ?_
    refine XS.istoreN X0.here hx rfl (hb hby d5_1) rfl (l' := #[.val (.ref a1), .val (.ref a2), .val (.int (0 : Int32)), .unset]) rfl ?_
    refine XS.aloadN X0.here hx rfl (hb hby d5_2) rfl rfl ?_
    show Steps p.tables e below (s₁.setTop (mkF m 3 #[.val (.ref a1), .val (.ref a2), .val (.int (0 : Int32)), .unset] [(.ref a2)])) _
    refine st3 _ ?_
    show Steps p.tables e below (T3.setTop (mkF m 6 #[.val (.ref a1), .val (.ref a2), .val (.int (0 : Int32)), .unset] [(.int (1 : Int32))])) _
    refine XS.ifNo X3.here hx rfl (hb hby d5_6) rfl ((if0 _ _).trans (feq (by decide : ¬ ((1 : Int32) = (0 : Int32)))).1) ?_
    show Steps p.tables e below (T3.setTop (mkF m 9 #[.val (.ref a1), .val (.ref a2), .val (.int (0 : Int32)), .unset] [])) _
    refine XS.aloadN X3.here hx rfl (hb hby d5_9) rfl rfl ?_
    show Steps p.tables e below (T3.setTop (mkF m 10 #[.val (.ref a1), .val (.ref a2), .val (.int (0 : Int32)), .unset] [(.ref a2)])) _
    refine st4 _ ?_
    show Steps p.tables e below (T4.setTop (mkF m 13 #[.val (.ref a1), .val (.ref a2), .val (.int (0 : Int32)), .unset] [(.ref a2)])) _
    refine XS.astoreN X4.here hx rfl (hb hby d5_13) rfl rfl (l' := #[.val (.ref a1), .val (.ref a2), .val (.int (0 : Int32)), .val (.ref a2)]) rfl ?_
    refine XS.aloadN X4.here hx rfl (hb hby d5_14) rfl rfl ?_
    show Steps p.tables e below (T4.setTop (mkF m 15 #[.val (.ref a1), .val (.ref a2), .val (.int (0 : Int32)), .val (.ref a2)] [(.ref a1)])) _
    refine st6 _ ?_
    show Steps p.tables e below (T6.setTop (mkF m 18 #[.val (.ref a1), .val (.ref a2), .val (.int (0 : Int32)), .val (.ref a2)] [(.ref w5)])) _
    refine XS.aloadN X6.here hx rfl (hb hby d5_18) rfl rfl ?_
    show Steps p.tables e below (T6.setTop (mkF m 19 #[.val (.ref a1), .val (.ref a2), .val (.int (0 : Int32)), .val (.ref a2)] [(.ref a2), (.ref w5)])) _
    refine st7 _ ?_
    show Steps p.tables e below (T7.setTop (mkF m 22 #[.val (.ref a1), .val (.ref a2), .val (.int (0 : Int32)), .val (.ref a2)] [(.ref w5), (.ref w5)])) _
    refine Jvm.RoadKit.acmp (g := (mkF m 22 #[.val (.ref a1), .val (.ref a2), .val (.int (0 : Int32)), .val (.ref a2)] [(.ref w5), (.ref w5)])) X7 hx rfl rfl rfl (pc0 := 22) (pc' := 25) (same := true) rfl (hb hby d5_22) rfl (decide_eq_true rfl) (by decide) (by decide) ?_
    show Steps p.tables e below (T7.setTop (mkF m 25 #[.val (.ref a1), .val (.ref a2), .val (.int (0 : Int32)), .val (.ref a2)] [])) _
    refine XS.aloadN X7.here hx rfl (hb hby d5_25) rfl rfl ?_
    show Steps p.tables e below (T7.setTop (mkF m 26 #[.val (.ref a1), .val (.ref a2), .val (.int (0 : Int32)), .val (.ref a2)] [(.ref a1)])) _
    refine st9 _ ?_
    show Steps p.tables e below (T9.setTop (mkF m 29 #[.val (.ref a1), .val (.ref a2), .val (.int (0 : Int32)), .val (.ref a2)] [(.int p8)])) _
    refine XS.aloadN X9.here hx rfl (hb hby d5_29) rfl rfl ?_
    show Steps p.tables e below (T9.setTop (mkF m 30 #[.val (.ref a1), .val (.ref a2), .val (.int (0 : Int32)), .val (.ref a2)] [(.ref a2), (.int p8)])) _
    refine st11 _ ?_
    show Steps p.tables e below (T11.setTop (mkF m 33 #[.val (.ref a1), .val (.ref a2), .val (.int (0 : Int32)), .val (.ref a2)] [(.int p10), (.int p8)])) _
    refine XS.icmpNo X11.here hx rfl (hb hby d5_33) rfl (teq pr6).2 ?_
    show Steps p.tables e below (T11.setTop (mkF m 36 #[.val (.ref a1), .val (.ref a2), .val (.int (0 : Int32)), .val (.ref a2)] [])) _
    refine XS.iconst X11.here hx rfl (hb hby d5_36) ?_
    refine XS.goto X11.here hx rfl (pc0 := 37) (pc' := 41) rfl (hb hby d5_37) (by decide) (by decide) ?_
    refine XS.istoreN X11.here hx rfl (hb hby d5_41) rfl (l' := #[.val (.ref a1), .val (.ref a2), .val (.int (1 : Int32)), .val (.ref a2)]) rfl ?_
    refine XS.iloadN X11.here hx rfl (hb hby d5_42) rfl ?_
    show Steps p.tables e below (T11.setTop (mkF m 43 #[.val (.ref a1), .val (.ref a2), .val (.int (1 : Int32)), .val (.ref a2)] [(.int (1 : Int32))])) _
    exact retN X11 hx (t := .boolean) Bd.returns (by simp) (hb hby d5_43) hr
  · show Q_rm5_0 Z a1 a2 w5 p8 p10 h0 n0 _ T11.heap _
    rw [e11]
    exact ⟨rfl, N0, rfl⟩
theorem pd_3 : parseMethodDescriptor "(Ljava/lang/Object;)Z" = some ⟨[(.object "java/lang/Object")], some .boolean⟩ := by decide +kernel
theorem d5_40 : decode prog_7_method_6_code 40 = .ok (.iconst 0, 1) := by decide +kernel
def Q_rm5_1 (Z : State) (a1 : Addr) (a2 : Addr) (w5 : Addr) (p8 : Int32) (p10 : Int32) (h0 : Heap) (n0 : Nat) (v : Option Value) (h : Heap) (L : List Loc) : Prop := v = some (.int (0 : Int32)) ∧ Fr n0 L ∧ h = h0
set_option maxRecDepth 65536 in
set_option maxHeartbeats 40000000 in
theorem rm5_1 (l : Launch) (Z : State) (a0 : Array Value) (hw : ∀ d ∈ tables_1, d.before a0 Z = true) (ws : List Jvm.Cond) (a1 : Addr) (a2 : Addr) (w5 : Addr) (p8 : Int32) (p10 : Int32) (h0 : Heap) (n0 : Nat) (OL0 : Old Z n0 h0) (pr1 : Exa Z h0 a2 "com/example/larch/larch/model/Interval") (pr2 : Fld Z h0 a1 "com/example/larch/larch/model/Interval" "unit" "Lcom/example/larch/larch/model/IntervalUnit;" (.ref w5)) (pr3 : Fld Z h0 a2 "com/example/larch/larch/model/Interval" "unit" "Lcom/example/larch/larch/model/IntervalUnit;" (.ref w5)) (pr4 : Fld Z h0 a1 "com/example/larch/larch/model/Interval" "length" "I" (.int p8)) (pr5 : Fld Z h0 a2 "com/example/larch/larch/model/Interval" "length" "I" (.int p10)) (pr6 : ¬ (p8 = p10)) :
    MetFree l (⟨"com/example/larch/larch/model/Interval", "equals", "(Ljava/lang/Object;)Z"⟩ : MethodName) (head1 (Jvm.Cond.code (⟨"com/example/larch/larch/model/Interval", "equals", "(Ljava/lang/Object;)Z"⟩ : MethodName) prog_7_method_6_code 4 (some .boolean) :: ws) ({ frames := 0, cells := 0, slots := 0, locals := 0 } : Room)) (fun a U => a = #[(.ref a1), (.ref a2)] ∧ Z.Warmed39 U.vm ∧ U.heap = h0) (fun _ _ _ _ _ => True) (fun _ U o U' => ∃ v L, o = .returned v ∧ Q_rm5_1 Z a1 a2 w5 p8 p10 h0 n0 v U'.heap L ∧ FrameEnd U o U' L ({ frames := 0, cells := 0, slots := 0, locals := 0 } : Room).cells ({ frames := 0, cells := 0, slots := 0, locals := 0 } : Room).slots) := by
  refine MetFree.of_bodySF (plainFor_of_name pn_1) hisR ?_
  intro p e s m args below meth c s₁ Bd hml0 hP hK
  obtain ⟨rfl, hZ, hh⟩ := hP
  have hx := Bd.exec
  have hby := Bd.bytes
  have hml : c.maxLocals = 4 := hml0
  have hown : s.vm.findClass "com/example/larch/larch/model/Interval" = some m.cls := findClass_of_methodNamed Bd.named
  have hnm := (name_of_methodNamed Bd.named Bd.method).1
  have X0 : Stand p l e ({ frames := 0, cells := 0, slots := 0, locals := 0 } : Room) s m #[(.ref a1), (.ref a2)] below meth c s₁ [] 0 0 := Stand.of_body Bd
  have e0 : s₁.heap = h0 := by rw [← hh, Bd.state]; rfl
  have N0 := Fr.nil n0
  have pre0 : ∀ t, Steps p.tables e below (s₁.setTop (mkF m 0 #[.val (.ref a1), .val (.ref a2), .unset, .unset] [])) t → Steps p.tables e below (s₁.setTop (entryFrame m #[(.ref a1), (.ref a2)] 4)) t := fun t k => castTop (ef_5_3 m a1 a2) k
  obtain ⟨T3, X3, e3, st3⟩ := instY X0 hx hZ hown (wd47 hw) e0 (Ins.self pr1) (g := (mkF m 3 #[.val (.ref a1), .val (.ref a2), .val (.int (0 : Int32)), .unset] [(.ref a2)])) rfl rfl (hb hby d5_3)
  obtain ⟨T4, X4, e4, st4⟩ := castY X3 hx hZ hown (wd47 hw) e3 (Ins.self pr1) (g := (mkF m 10 #[.val (.ref a1), .val (.ref a2), .val (.int (0 : Int32)), .unset] [(.ref a2)])) rfl rfl (hb hby d5_10)
  obtain ⟨T6, X6, e6, st6⟩ := getF X4 hx hZ hown (host := "") (Or.inl (wd38 hw)) Via.refl e4 pr2 (g := (mkF m 15 #[.val (.ref a1), .val (.ref a2), .val (.int (0 : Int32)), .val (.ref a2)] [(.ref a1)])) rfl rfl (hb hby d5_15)
  obtain ⟨T7, X7, e7, st7⟩ := getF X6 hx hZ hown (host := "") (Or.inl (wd38 hw)) Via.refl e6 pr3 (g := (mkF m 19 #[.val (.ref a1), .val (.ref a2), .val (.int (0 : Int32)), .val (.ref a2)] [(.ref a2), (.ref w5)])) rfl rfl (hb hby d5_19)
  obtain ⟨T9, X9, e9, st9⟩ := getF X7 hx hZ hown (host := "") (Or.inl (wd40 hw)) Via.refl e7 pr4 (g := (mkF m 26 #[.val (.ref a1), .val (.ref a2), .val (.int (0 : Int32)), .val (.ref a2)] [(.ref a1)])) rfl rfl (hb hby d5_26)
  obtain ⟨T11, X11, e11, st11⟩ := getF X9 hx hZ hown (host := "") (Or.inl (wd40 hw)) Via.refl e9 pr5 (g := (mkF m 30 #[.val (.ref a1), .val (.ref a2), .val (.int (0 : Int32)), .val (.ref a2)] [(.ref a2), (.int p8)])) rfl rfl (hb hby d5_30)
  obtain ⟨fs, hr, hrun, hended, hW, hsame⟩ := X11.leave (v := some (.int (0 : Int32))) (fun h => by rw [Bd.returns] at h; cases h)
  refine ⟨_, _, pre0 _ ?_, hrun, hended, _, _, rfl, ?_, ⟨_, rfl⟩, hW, hsame.mono (by decide) (by decide)⟩
  · show Steps p.tables e below (s₁.setTop (mkF m 0 #[.val (.ref a1), .val (.ref a2), .unset, .unset] [])) _
    refine XS.iconst X0.here hx rfl (hb hby d5_0) ?_
    refine XS.istoreN X0.here hx rfl (hb hby d5_1) rfl (l' := #[.val (.ref a1), .val (.ref a2), .val (.int (0 : Int32)), .unset]) rfl ?_
    refine XS.aloadN X0.here hx rfl (hb hby d5_2) rfl rfl ?_
    show Steps p.tables e below (s₁.setTop (mkF m 3 #[.val (.ref a1), .val (.ref a2), .val (.int (0 : Int32)), .unset] [(.ref a2)])) _
    refine st3 _ ?_
    show Steps p.tables e below (T3.setTop (mkF m 6 #[.val (.ref a1), .val (.ref a2), .val (.int (0 : Int32)), .unset] [(.int (1 : Int32))])) _
    refine XS.ifNo X3.here hx rfl (hb hby d5_6) rfl ((if0 _ _).trans (feq (by decide : ¬ ((1 : Int32) = (0 : Int32)))).1) ?_
    show Steps p.tables e below (T3.setTop (mkF m 9 #[.val (.ref a1), .val (.ref a2), .val (.int (0 : Int32)), .unset] [])) _
    refine XS.aloadN X3.here hx rfl (hb hby d5_9) rfl rfl ?_
    show Steps p.tables e below (T3.setTop (mkF m 10 #[.val (.ref a1), .val (.ref a2), .val (.int (0 : Int32)), .unset] [(.ref a2)])) _
    refine st4 _ ?_
    show Steps p.tables e below (T4.setTop (mkF m 13 #[.val (.ref a1), .val (.ref a2), .val (.int (0 : Int32)), .unset] [(.ref a2)])) _
    refine XS.astoreN X4.here hx rfl (hb hby d5_13) rfl rfl (l' := #[.val (.ref a1), .val (.ref a2), .val (.int (0 : Int32)), .val (.ref a2)]) rfl ?_
    refine XS.aloadN X4.here hx rfl (hb hby d5_14) rfl rfl ?_
    show Steps p.tables e below (T4.setTop (mkF m 15 #[.val (.ref a1), .val (.ref a2), .val (.int (0 : Int32)), .val (.ref a2)] [(.ref a1)])) _
    refine st6 _ ?_
    show Steps p.tables e below (T6.setTop (mkF m 18 #[.val (.ref a1), .val (.ref a2), .val (.int (0 : Int32)), .val (.ref a2)] [(.ref w5)])) _
    refine XS.aloadN X6.here hx rfl (hb hby d5_18) rfl rfl ?_
    show Steps p.tables e below (T6.setTop (mkF m 19 #[.val (.ref a1), .val (.ref a2), .val (.int (0 : Int32)), .val (.ref a2)] [(.ref a2), (.ref w5)])) _
    refine st7 _ ?_
    show Steps p.tables e below (T7.setTop (mkF m 22 #[.val (.ref a1), .val (.ref a2), .val (.int (0 : Int32)), .val (.ref a2)] [(.ref w5), (.ref w5)])) _
    refine Jvm.RoadKit.acmp (g := (mkF m 22 #[.val (.ref a1), .val (.ref a2), .val (.int (0 : Int32)), .val (.ref a2)] [(.ref w5), (.ref w5)])) X7 hx rfl rfl rfl (pc0 := 22) (pc' := 25) (same := true) rfl (hb hby d5_22) rfl (decide_eq_true rfl) (by decide) (by decide) ?_
    show Steps p.tables e below (T7.setTop (mkF m 25 #[.val (.ref a1), .val (.ref a2), .val (.int (0 : Int32)), .val (.ref a2)] [])) _
    refine XS.aloadN X7.here hx rfl (hb hby d5_25) rfl rfl ?_
    show Steps p.tables e below (T7.setTop (mkF m 26 #[.val (.ref a1), .val (.ref a2), .val (.int (0 : Int32)), .val (.ref a2)] [(.ref a1)])) _
    refine st9 _ ?_
    show Steps p.tables e below (T9.setTop (mkF m 29 #[.val (.ref a1), .val (.ref a2), .val (.int (0 : Int32)), .val (.ref a2)] [(.int p8)])) _
    refine XS.aloadN X9.here hx rfl (hb hby d5_29) rfl rfl ?_
    show Steps p.tables e below (T9.setTop (mkF m 30 #[.val (.ref a1), .val (.ref a2), .val (.int (0 : Int32)), .val (.ref a2)] [(.ref a2), (.int p8)])) _
    refine st11 _ ?_
    show Steps p.tables e below (T11.setTop (mkF m 33 #[.val (.ref a1), .val (.ref a2), .val (.int (0 : Int32)), .val (.ref a2)] [(.int p10), (.int p8)])) _
    refine XS.icmpYes X11.here hx rfl (pc0 := 33) (pc' := 40) rfl (hb hby d5_33) rfl (feq pr6).2 (by decide) (by decide) ?_
    show Steps p.tables e below (T11.setTop (mkF m 40 #[.val (.ref a1), .val (.ref a2), .val (.int (0 : Int32)), .val (.ref a2)] [])) _
    refine XS.iconst X11.here hx rfl (hb hby d5_40) ?_
    refine XS.istoreN X11.here hx rfl (hb hby d5_41) rfl (l' := #[.val (.ref a1), .val (.ref a2), .val (.int (0 : Int32)), .val (.ref a2)]) rfl ?_
    refine XS.iloadN X11.here hx rfl (hb hby d5_42) rfl ?_
    show Steps p.tables e below (T11.setTop (mkF m 43 #[.val (.ref a1), .val (.ref a2), .val (.int (0 : Int32)), .val (.ref a2)] [(.int (0 : Int32))])) _
    exact retN X11 hx (t := .boolean) Bd.returns (by simp) (hb hby d5_43) hr
  · show Q_rm5_1 Z a1 a2 w5 p8 p10 h0 n0 _ T11.heap _
    rw [e11]
    exact ⟨rfl, N0, rfl⟩
theorem ef_5_4 (m : MethodId) (x0 : Addr) : entryFrame m #[(.ref x0), .null] 4 = mkF m 0 #[.val (.ref x0), .val .null, .unset, .unset] [] := by first | (simp [entryFrame, mkF, argsToLocals, Value.category]; done) | rfl
def Q_rm5_2 (Z : State) (a1 : Addr) (h0 : Heap) (n0 : Nat) (v : Option Value) (h : Heap) (L : List Loc) : Prop := v = some (.int (0 : Int32)) ∧ Fr n0 L ∧ h = h0
set_option maxRecDepth 65536 in
set_option maxHeartbeats 40000000 in
theorem rm5_2 (l : Launch) (Z : State) (a0 : Array Value) (hw : ∀ d ∈ tables_1, d.before a0 Z = true) (ws : List Jvm.Cond) (a1 : Addr) (h0 : Heap) (n0 : Nat) (OL0 : Old Z n0 h0)  :
    MetFree l (⟨"com/example/larch/larch/model/Interval", "equals", "(Ljava/lang/Object;)Z"⟩ : MethodName) (head1 (Jvm.Cond.code (⟨"com/example/larch/larch/model/Interval", "equals", "(Ljava/lang/Object;)Z"⟩ : MethodName) prog_7_method_6_code 4 (some .boolean) :: ws) ({ frames := 0, cells := 0, slots := 0, locals := 0 } : Room)) (fun a U => a = #[(.ref a1), .null] ∧ Z.Warmed39 U.vm ∧ U.heap = h0) (fun _ _ _ _ _ => True) (fun _ U o U' => ∃ v L, o = .returned v ∧ Q_rm5_2 Z a1 h0 n0 v U'.heap L ∧ FrameEnd U o U' L ({ frames := 0, cells := 0, slots := 0, locals := 0 } : Room).cells ({ frames := 0, cells := 0, slots := 0, locals := 0 } : Room).slots) := by
  refine MetFree.of_bodySF (plainFor_of_name pn_1) hisR ?_
  intro p e s m args below meth c s₁ Bd hml0 hP hK
  obtain ⟨rfl, hZ, hh⟩ := hP
  have hx := Bd.exec
  have hby := Bd.bytes
  have hml : c.maxLocals = 4 := hml0
  have hown : s.vm.findClass "com/example/larch/larch/model/Interval" = some m.cls := findClass_of_methodNamed Bd.named
  have hnm := (name_of_methodNamed Bd.named Bd.method).1
  have X0 : Stand p l e ({ frames := 0, cells := 0, slots := 0, locals := 0 } : Room) s m #[(.ref a1), .null] below meth c s₁ [] 0 0 := Stand.of_body Bd
  have e0 : s₁.heap = h0 := by rw [← hh, Bd.state]; rfl
  have N0 := Fr.nil n0
  have pre0 : ∀ t, Steps p.tables e below (s₁.setTop (mkF m 0 #[.val (.ref a1), .val .null, .unset, .unset] [])) t → Steps p.tables e below (s₁.setTop (entryFrame m #[(.ref a1), .null] 4)) t := fun t k => castTop (ef_5_4 m a1) k
  obtain ⟨fs, hr, hrun, hended, hW, hsame⟩ := X0.leave (v := some (.int (0 : Int32))) (fun h => by rw [Bd.returns] at h; cases h)
  refine ⟨_, _, pre0 _ ?_, hrun, hended, _, _, rfl, ?_, ⟨_, rfl⟩, hW, hsame.mono (by decide) (by decide)⟩
  · show Steps p.tables e below (s₁.setTop (mkF m 0 #[.val (.ref a1), .val .null, .unset, .unset] [])) _
    refine XS.iconst X0.here hx rfl (hb hby d5_0) ?_
    refine XS.istoreN X0.here hx rfl (hb hby d5_1) rfl (l' := #[.val (.ref a1), .val .null, .val (.int (0 : Int32)), .unset]) rfl ?_
    refine XS.aloadN X0.here hx rfl (hb hby d5_2) rfl rfl ?_
    show Steps p.tables e below (s₁.setTop (mkF m 3 #[.val (.ref a1), .val .null, .val (.int (0 : Int32)), .unset] [.null])) _
    refine X0.instanceofNull hx (g := (mkF m 3 #[.val (.ref a1), .val .null, .val (.int (0 : Int32)), .unset] [.null])) rfl rfl (hb hby d5_3) _ ?_
    show Steps p.tables e below (s₁.setTop (mkF m 6 #[.val (.ref a1), .val .null, .val (.int (0 : Int32)), .unset] [(.int (0 : Int32))])) _
    refine XS.ifYes X0.here hx rfl (pc0 := 6) (pc' := 42) rfl (hb hby d5_6) rfl ((if0 _ _).trans (teq (rfl : (0 : Int32) = (0 : Int32))).1) (by decide) (by decide) ?_
    show Steps p.tables e below (s₁.setTop (mkF m 42 #[.val (.ref a1), .val .null, .val (.int (0 : Int32)), .unset] [])) _
    refine XS.iloadN X0.here hx rfl (hb hby d5_42) rfl ?_
    show Steps p.tables e below (s₁.setTop (mkF m 43 #[.val (.ref a1), .val .null, .val (.int (0 : Int32)), .unset] [(.int (0 : Int32))])) _
    exact retN X0 hx (t := .boolean) Bd.returns (by simp) (hb hby d5_43) hr
  · show Q_rm5_2 Z a1 h0 n0 _ s₁.heap _
    rw [e0]
    exact ⟨rfl, N0, rfl⟩
theorem d6_0 : decode jdk_33_method_22_code 0 = .ok (.iload_n 0, 1) := by decide +kernel
theorem d6_1 : decode jdk_33_method_22_code 1 = .ok (.bipush (-128), 2) := by decide +kernel
theorem d6_3 : decode jdk_33_method_22_code 3 = .ok (.if_icmp .lt 20, 3) := by decide +kernel
theorem d6_6 : decode jdk_33_method_22_code 6 = .ok (.iload_n 0, 1) := by decide +kernel
theorem d6_7 : decode jdk_33_method_22_code 7 = .ok (.getstatic 191, 3) := by decide +kernel
theorem d6_10 : decode jdk_33_method_22_code 10 = .ok (.if_icmp .gt 13, 3) := by decide +kernel
theorem d6_23 : decode jdk_33_method_22_code 23 = .ok (.new 1, 3) := by decide +kernel
theorem d6_26 : decode jdk_33_method_22_code 26 = .ok (.dup, 1) := by decide +kernel
theorem d6_27 : decode jdk_33_method_22_code 27 = .ok (.iload_n 0, 1) := by decide +kernel
theorem d6_28 : decode jdk_33_method_22_code 28 = .ok (.invokespecial 199, 3) := by decide +kernel
theorem d7_0 : decode jdk_33_method_23_code 0 = .ok (.aload_n 0, 1) := by decide +kernel
theorem d7_1 : decode jdk_33_method_23_code 1 = .ok (.invokespecial 202, 3) := by decide +kernel
theorem d8_0 : decode jdk_18_method_1_code 0 = .ok (.aload_n 0, 1) := by decide +kernel
theorem d8_1 : decode jdk_18_method_1_code 1 = .ok (.invokespecial 1, 3) := by decide +kernel
theorem d8_4 : decode jdk_18_method_1_code 4 = .ok (.return_, 1) := by decide +kernel
theorem ef_8_5 (m : MethodId) (x0 : Addr) : entryFrame m #[(.ref x0)] 1 = mkF m 0 #[.val (.ref x0)] [] := by first | (simp [entryFrame, mkF, argsToLocals, Value.category]; done) | rfl
theorem pn_2 : plainName "java/lang/Number" = true := by first | (simp [plainName, overriddenIn]; done) | decide +kernel
def Q_rm8_0 (Z : State) (a1 : Addr) (h0 : Heap) (n0 : Nat) (v : Option Value) (h : Heap) (L : List Loc) : Prop := v = none ∧ Fr n0 L ∧ h = h0
set_option maxRecDepth 65536 in
set_option maxHeartbeats 40000000 in
theorem rm8_0 (l : Launch) (Z : State) (a0 : Array Value) (hw : ∀ d ∈ tables_1, d.before a0 Z = true) (ws : List Jvm.Cond) (a1 : Addr) (h0 : Heap) (n0 : Nat) (OL0 : Old Z n0 h0)  :
    MetFree l (⟨"java/lang/Number", "<init>", "()V"⟩ : MethodName) (head1 (Jvm.Cond.code (⟨"java/lang/Number", "<init>", "()V"⟩ : MethodName) jdk_18_method_1_code 1 none :: ws) ({ frames := 1, cells := 0, slots := 0, locals := 12 } : Room)) (fun a U => a = #[(.ref a1)] ∧ Z.Warmed39 U.vm ∧ U.heap = h0) (fun _ _ _ _ _ => True) (fun _ U o U' => ∃ v L, o = .returned v ∧ Q_rm8_0 Z a1 h0 n0 v U'.heap L ∧ FrameEnd U o U' L ({ frames := 1, cells := 0, slots := 0, locals := 12 } : Room).cells ({ frames := 1, cells := 0, slots := 0, locals := 12 } : Room).slots) := by
  refine MetFree.of_bodySF (plainFor_of_name pn_2) hisR ?_
  intro p e s m args below meth c s₁ Bd hml0 hP hK
  obtain ⟨rfl, hZ, hh⟩ := hP
  have hx := Bd.exec
  have hby := Bd.bytes
  have hml : c.maxLocals = 1 := hml0
  have hown : s.vm.findClass "java/lang/Number" = some m.cls := findClass_of_methodNamed Bd.named
  have hnm := (name_of_methodNamed Bd.named Bd.method).1
  have X0 : Stand p l e ({ frames := 1, cells := 0, slots := 0, locals := 12 } : Room) s m #[(.ref a1)] below meth c s₁ [] 0 0 := Stand.of_body Bd
  have e0 : s₁.heap = h0 := by rw [← hh, Bd.state]; rfl
  have N0 := Fr.nil n0
  have pre0 : ∀ t, Steps p.tables e below (s₁.setTop (mkF m 0 #[.val (.ref a1)] [])) t → Steps p.tables e below (s₁.setTop (entryFrame m #[(.ref a1)] 1)) t := fun t k => castTop (ef_8_5 m a1) k
  obtain ⟨T2, X2, e2, st2⟩ := initO X0 hx hZ hown (wd67 hw) (wd24 hw) (wd25 hw) e0 (g := (mkF m 1 #[.val (.ref a1)] [(.ref a1)])) rfl (by rw [hml]; rfl) rfl (hb hby d8_1) (by decide) (W := 0) (by show 2 * 0 + _ ≤ _; exact Nat.le_of_eq rfl) (by decide)
  obtain ⟨fs, hr, hrun, hended, hW, hsame⟩ := X2.leave (v := none) (fun _ => rfl)
  refine ⟨_, _, pre0 _ ?_, hrun, hended, _, _, rfl, ?_, ⟨_, rfl⟩, hW, hsame.mono (by decide) (by decide)⟩
  · show Steps p.tables e below (s₁.setTop (mkF m 0 #[.val (.ref a1)] [])) _
    refine XS.aloadN X0.here hx rfl (hb hby d8_0) rfl rfl ?_
    show Steps p.tables e below (s₁.setTop (mkF m 1 #[.val (.ref a1)] [(.ref a1)])) _
    refine st2 _ ?_
    show Steps p.tables e below (T2.setTop (mkF m 4 #[.val (.ref a1)] [])) _
    exact X2.returnOut hx Bd.returns (hb hby d8_4) hr
  · show Q_rm8_0 Z a1 h0 n0 _ T2.heap _
    rw [e2]
    exact ⟨rfl, N0, rfl⟩
theorem pd_4 : parseMethodDescriptor "()V" = some ⟨[], none⟩ := by decide +kernel
theorem d7_4 : decode jdk_33_method_23_code 4 = .ok (.aload_n 0, 1) := by decide +kernel
theorem d7_5 : decode jdk_33_method_23_code 5 = .ok (.iload_n 1, 1) := by decide +kernel
theorem d7_6 : decode jdk_33_method_23_code 6 = .ok (.putfield 205, 3) := by decide +kernel
theorem d7_9 : decode jdk_33_method_23_code 9 = .ok (.return_, 1) := by decide +kernel
theorem ef_7_6 (m : MethodId) (x0 : Addr) (x1 : Int32) : entryFrame m #[(.ref x0), (.int x1)] 2 = mkF m 0 #[.val (.ref x0), .val (.int x1)] [] := by first | (simp [entryFrame, mkF, argsToLocals, Value.category]; done) | rfl
theorem pn_3 : plainName "java/lang/Integer" = true := by first | (simp [plainName, overriddenIn]; done) | decide +kernel
def Q_rm7_0 (Z : State) (a1 : Addr) (p2 : Int32) (h0 : Heap) (n0 : Nat) (v : Option Value) (h : Heap) (L : List Loc) : Prop := v = none ∧ Fr n0 L ∧ Keep h0 h [a1] ∧ Fld Z h a1 "java/lang/Integer" "value" "I" (.int p2)
set_option maxRecDepth 65536 in
set_option maxHeartbeats 40000000 in
theorem rm7_0 (l : Launch) (Z : State) (a0 : Array Value) (hw : ∀ d ∈ tables_1, d.before a0 Z = true) (ws : List Jvm.Cond) (a1 : Addr) (p2 : Int32) (h0 : Heap) (n0 : Nat) (OL0 : Old Z n0 h0) (pr1 : Exa Z h0 a1 "java/lang/Integer") (pr2 : Fld Z h0 a1 "java/lang/Integer" "value" "I" (.int (0 : Int32))) (pr3 : n0 ≤ a1) :
    MetFree l (⟨"java/lang/Integer", "<init>", "(I)V"⟩ : MethodName) (head1 (Jvm.Cond.code (⟨"java/lang/Integer", "<init>", "(I)V"⟩ : MethodName) jdk_33_method_23_code 2 none :: ws) ({ frames := 2, cells := 0, slots := 0, locals := 24 } : Room)) (fun a U => a = #[(.ref a1), (.int p2)] ∧ Z.Warmed39 U.vm ∧ U.heap = h0) (fun _ _ _ _ _ => True) (fun _ U o U' => ∃ v L, o = .returned v ∧ Q_rm7_0 Z a1 p2 h0 n0 v U'.heap L ∧ FrameEnd U o U' L ({ frames := 2, cells := 0, slots := 0, locals := 24 } : Room).cells ({ frames := 2, cells := 0, slots := 0, locals := 24 } : Room).slots) := by
  refine MetFree.of_bodySF (plainFor_of_name pn_3) hisR ?_
  intro p e s m args below meth c s₁ Bd hml0 hP hK
  obtain ⟨rfl, hZ, hh⟩ := hP
  have hx := Bd.exec
  have hby := Bd.bytes
  have hml : c.maxLocals = 2 := hml0
  have hown : s.vm.findClass "java/lang/Integer" = some m.cls := findClass_of_methodNamed Bd.named
  have hnm := (name_of_methodNamed Bd.named Bd.method).1
  have X0 : Stand p l e ({ frames := 2, cells := 0, slots := 0, locals := 24 } : Room) s m #[(.ref a1), (.int p2)] below meth c s₁ [] 0 0 := Stand.of_body Bd
  have e0 : s₁.heap = h0 := by rw [← hh, Bd.state]; rfl
  have N0 := Fr.nil n0
  have pre0 : ∀ t, Steps p.tables e below (s₁.setTop (mkF m 0 #[.val (.ref a1), .val (.int p2)] [])) t → Steps p.tables e below (s₁.setTop (entryFrame m #[(.ref a1), (.int p2)] 2)) t := fun t k => castTop (ef_7_6 m a1 p2) k
  obtain ⟨_, _, ⟨T3, L3, k3, n3⟩, -, X3, ⟨Lc3, hQ3, l3, y3, z3⟩, st3⟩ := X0.specialBack hx (y := (⟨"java/lang/Number", "<init>", "()V"⟩ : MethodName)) rfl hown (mvT hZ (wd61 hw)) (mvT hZ (wd62 hw)) (mvT hZ (wd66 hw)) (by decide) (backOf (W := 0) (rm8_0 l Z a0 hw [] a1 h0 n0 OL0 ) hZ (wd66 hw) (wd65 hw) (by decide) (by decide)) (g := (mkF m 1 #[.val (.ref a1), .val (.int p2)] [(.ref a1)])) rfl (by rw [hml]; rfl) (Steps.refl _) (a := a1) (argsL := []) (rest := []) (lenOf pd_4 rfl) rfl (by show 2 * 0 + _ ≤ _; exact Nat.le_of_eq rfl) (hb hby d7_1) (fun _ _ => ⟨rfl, e0, (by decide : 0 + 0 ≤ _), (by decide : 0 + 0 ≤ _)⟩)
  dsimp only [Pt.U, Pt.locs, Pt.cells, Pt.slots] at X3 l3 y3 z3 st3 hQ3
  subst l3 y3 z3
  obtain ⟨rfl, Nq3, ec3⟩ := hQ3
  have N3 := Fr.app N0 Nq3
  obtain ⟨T4, h4, X4, e4, W4, st4⟩ := putF X3 hx hZ hown (host := "") (Or.inl (wd68 hw)) Via.refl ec3 pr2 pr1 (Or.inr ⟨(wd69 hw), rfl, hnm⟩) (wd56 hw) (ty := .int) (by decide) rfl rfl (g := (mkF m 6 #[.val (.ref a1), .val (.int p2)] [(.int p2), (.ref a1)])) rfl rfl (hb hby d7_6)
  have Fw4 := pr2.same W4
  have KK4 : Keep h0 h4 [a1] := (Keep.refl h0 [a1]).wr W4 (Or.inl (List.mem_of_getElem? (i := 0) rfl))
  have OL4 := OL0.wr W4 pr3
  have N4 := Fr.snoc X4 N3 pr3
  obtain ⟨fs, hr, hrun, hended, hW, hsame⟩ := X4.leave (v := none) (fun _ => rfl)
  refine ⟨_, _, pre0 _ ?_, hrun, hended, _, _, rfl, ?_, ⟨_, rfl⟩, hW, hsame.mono (by decide) (by decide)⟩
  · show Steps p.tables e below (s₁.setTop (mkF m 0 #[.val (.ref a1), .val (.int p2)] [])) _
    refine XS.aloadN X0.here hx rfl (hb hby d7_0) rfl rfl ?_
    show Steps p.tables e below (s₁.setTop (mkF m 1 #[.val (.ref a1), .val (.int p2)] [(.ref a1)])) _
    refine st3.trans ?_
    show Steps p.tables e below (T3.setTop (mkF m 4 #[.val (.ref a1), .val (.int p2)] [])) _
    refine XS.aloadN X3.here hx rfl (hb hby d7_4) rfl rfl ?_
    refine XS.iloadN X3.here hx rfl (hb hby d7_5) rfl ?_
    show Steps p.tables e below (T3.setTop (mkF m 6 #[.val (.ref a1), .val (.int p2)] [(.int p2), (.ref a1)])) _
    refine st4 _ ?_
    show Steps p.tables e below (T4.setTop (mkF m 9 #[.val (.ref a1), .val (.int p2)] [])) _
    exact X4.returnOut hx Bd.returns (hb hby d7_9) hr
  · show Q_rm7_0 Z a1 p2 h0 n0 _ T4.heap _
    rw [e4]
    exact ⟨rfl, N4, KK4, Fw4⟩
theorem pd_5 : parseMethodDescriptor "(I)V" = some ⟨[.int], none⟩ := by decide +kernel
theorem d6_31 : decode jdk_33_method_22_code 31 = .ok (.areturn, 1) := by decide +kernel
theorem ef_6_7 (m : MethodId) (x0 : Int32) : entryFrame m #[(.int x0)] 1 = mkF m 0 #[.val (.int x0)] [] := by first | (simp [entryFrame, mkF, argsToLocals, Value.category]; done) | rfl
def Q_rm6_0 (Z : State) (p1 : Int32) (h0 : Heap) (n0 : Nat) (v : Option Value) (h : Heap) (L : List Loc) : Prop := ∃ b3 : Addr, v = some (.ref b3) ∧ Fr n0 L ∧ Keep h0 h [] ∧ h0.size ≤ b3 ∧ Exa Z h b3 "java/lang/Integer" ∧ Fld Z h b3 "java/lang/Integer" "value" "I" (.int p1)
set_option maxRecDepth 65536 in
set_option maxHeartbeats 40000000 in
theorem rm6_0 (l : Launch) (Z : State) (a0 : Array Value) (hw : ∀ d ∈ tables_1, d.before a0 Z = true) (ws : List Jvm.Cond) (p1 : Int32) (h0 : Heap) (n0 : Nat) (OL0 : Old Z n0 h0) (pr1 : ¬ (p1 < (-128 : Int32))) (pr2 : Sta Z Z.heap "java/lang/Integer$IntegerCache" "high" "I" (.int (127 : Int32))) (pr3 : (127 : Int32) < p1) :
    MetFree l (⟨"java/lang/Integer", "valueOf", "(I)Ljava/lang/Integer;"⟩ : MethodName) (head1 (Jvm.Cond.code (⟨"java/lang/Integer", "valueOf", "(I)Ljava/lang/Integer;"⟩ : MethodName) jdk_33_method_22_code 1 (some (.object "java/lang/Integer")) :: ws) ({ frames := 3, cells := 1, slots := 1, locals := 38 } : Room)) (fun a U => a = #[(.int p1)] ∧ Z.Warmed39 U.vm ∧ U.heap = h0) (fun _ _ _ _ _ => True) (fun _ U o U' => ∃ v L, o = .returned v ∧ Q_rm6_0 Z p1 h0 n0 v U'.heap L ∧ FrameEnd U o U' L ({ frames := 3, cells := 1, slots := 1, locals := 38 } : Room).cells ({ frames := 3, cells := 1, slots := 1, locals := 38 } : Room).slots) := by
  refine MetFree.of_bodySF (plainFor_of_name pn_3) hisR ?_
  intro p e s m args below meth c s₁ Bd hml0 hP hK
  obtain ⟨rfl, hZ, hh⟩ := hP
  have hx := Bd.exec
  have hby := Bd.bytes
  have hml : c.maxLocals = 1 := hml0
  have hown : s.vm.findClass "java/lang/Integer" = some m.cls := findClass_of_methodNamed Bd.named
  have hnm := (name_of_methodNamed Bd.named Bd.method).1
  have X0 : Stand p l e ({ frames := 3, cells := 1, slots := 1, locals := 38 } : Room) s m #[(.int p1)] below meth c s₁ [] 0 0 := Stand.of_body Bd
  have e0 : s₁.heap = h0 := by rw [← hh, Bd.state]; rfl
  have N0 := Fr.nil n0
  have pre0 : ∀ t, Steps p.tables e below (s₁.setTop (mkF m 0 #[.val (.int p1)] [])) t → Steps p.tables e below (s₁.setTop (entryFrame m #[(.int p1)] 1)) t := fun t k => castTop (ef_6_7 m p1) k
  obtain ⟨T2, X2, e2, st2⟩ := getS2 X0 hx hZ hown (host := "") (Or.inl (wd53 hw)) Via.refl e0 (pr2.ext OL0.2) (g := (mkF m 7 #[.val (.int p1)] [(.int p1)])) rfl (hb hby d6_7)
  obtain ⟨T3, h3, X3, e3, E3, A3, D3, -, st3⟩ := newO X2 hx hZ hown (wd55 hw) (wd56 hw) (wd51 hw) e2 (g := (mkF m 23 #[.val (.int p1)] [])) rfl (hb hby d6_23) (by decide) (by decide)
  obtain ⟨b3, g3⟩ : ∃ z, z = h0.size := ⟨_, rfl⟩
  rw [← g3] at A3 D3 st3
  have g_b3 : n0 ≤ b3 := (Nat.le_trans (Nat.le_trans (Nat.le_of_eq OL0.1.symm) OL0.2.1) (Nat.le_of_eq g3.symm))
  have sz_b3 : h0.size ≤ b3 := (Nat.le_trans (Keep.refl h0 []).1 (Nat.le_of_eq g3.symm))
  have KK3 : Keep h0 h3 [] := (Keep.refl h0 []).ext E3
  have OL3 := OL0.ext E3
  have F_value_b3 : Fld Z h3 b3 "java/lang/Integer" "value" "I" (.int (0 : Int32)) := D3 (Or.inr (wd69 hw)) (ty := .int) (by decide)
  obtain ⟨_, _, ⟨T4, L4, k4, n4⟩, -, X4, ⟨Lc4, hQ4, l4, y4, z4⟩, st4⟩ := X3.specialBack hx (y := (⟨"java/lang/Integer", "<init>", "(I)V"⟩ : MethodName)) rfl hown (mvT hZ (wd57 hw)) (mvT hZ (wd58 hw)) (mvT hZ (wd60 hw)) (by decide) (backOf (W := 1) (rm7_0 l Z a0 hw [] b3 p1 h3 n0 OL3 A3 F_value_b3 g_b3) hZ (wd60 hw) (wd51 hw) (by decide) (by decide)) (g := (mkF m 28 #[.val (.int p1)] [(.int p1), (.ref b3), (.ref b3)])) rfl (by rw [hml]; rfl) (Steps.refl _) (a := b3) (argsL := [(.int p1)]) (rest := [(.ref b3)]) (lenOf pd_5 rfl) rfl (by show 2 * 0 + _ ≤ _; exact Nat.le_of_eq rfl) (hb hby d6_28) (fun _ _ => ⟨rfl, e3, (by decide : 1 + 0 ≤ _), (by decide : 1 + 0 ≤ _)⟩)
  dsimp only [Pt.U, Pt.locs, Pt.cells, Pt.slots] at X4 l4 y4 z4 st4 hQ4
  subst l4 y4 z4
  obtain ⟨rfl, Nq4, K4, u4_0⟩ := hQ4
  have KK4 : Keep h0 T4.heap [] := KK3.trans K4 (allS (Or.inr sz_b3) all0)
  have OL4 := OL3.keep K4 (allS g_b3 all0)
  have N4 := Fr.app N0 Nq4
  have fc5 := (A3.keep K4)
  obtain ⟨fs, hr, hrun, hended, hW, hsame⟩ := X4.leave (v := some (.ref b3)) (fun h => by rw [Bd.returns] at h; cases h)
  refine ⟨_, _, pre0 _ ?_, hrun, hended, _, _, rfl, ?_, ⟨_, rfl⟩, hW, hsame.mono (by decide) (by decide)⟩
  · show Steps p.tables e below (s₁.setTop (mkF m 0 #[.val (.int p1)] [])) _
    refine XS.iloadN X0.here hx rfl (hb hby d6_0) rfl ?_
    refine XS.bipush X0.here hx rfl (hb hby d6_1) ?_
    show Steps p.tables e below (s₁.setTop (mkF m 3 #[.val (.int p1)] [(.int (-128 : Int32)), (.int p1)])) _
    refine XS.icmpNo X0.here hx rfl (hb hby d6_3) rfl (flt pr1).1 ?_
    show Steps p.tables e below (s₁.setTop (mkF m 6 #[.val (.int p1)] [])) _
    refine XS.iloadN X0.here hx rfl (hb hby d6_6) rfl ?_
    show Steps p.tables e below (s₁.setTop (mkF m 7 #[.val (.int p1)] [(.int p1)])) _
    refine st2 _ ?_
    show Steps p.tables e below (T2.setTop (mkF m 10 #[.val (.int p1)] [(.int (127 : Int32)), (.int p1)])) _
    refine XS.icmpYes X2.here hx rfl (pc0 := 10) (pc' := 23) rfl (hb hby d6_10) rfl (tlt pr3).2.2.1 (by decide) (by decide) ?_
    show Steps p.tables e below (T2.setTop (mkF m 23 #[.val (.int p1)] [])) _
    refine st3 _ ?_
    show Steps p.tables e below (T3.setTop (mkF m 26 #[.val (.int p1)] [(.ref b3)])) _
    refine XS.dup X3.here hx rfl (hb hby d6_26) rfl rfl ?_
    refine XS.iloadN X3.here hx rfl (hb hby d6_27) rfl ?_
    show Steps p.tables e below (T3.setTop (mkF m 28 #[.val (.int p1)] [(.int p1), (.ref b3), (.ref b3)])) _
    refine st4.trans ?_
    show Steps p.tables e below (T4.setTop (mkF m 31 #[.val (.int p1)] [(.ref b3)])) _
    jvm_step X4.here [X4.here.top, hx, (hb hby d6_31), X4.method', Bd.returns, Value.isRef, FieldType.isReference]
    first | (intro acts; rw [hr _ acts rfl rfl rfl]) | rw [hr _ _ rfl rfl rfl]
    exact Steps.refl _
  · show Q_rm6_0 Z p1 h0 n0 _ T4.heap _
    exact ⟨b3, rfl, N4, KK4, sz_b3, fc5, u4_0⟩
theorem pd_6 : parseMethodDescriptor "(I)Ljava/lang/Integer;" = some ⟨[.int], some (.object "java/lang/Integer")⟩ := by decide +kernel
def NI (Z : State) (K : String) : Prop := ∃ t k, Z.vm.findClass K = some t ∧ Z.vm.classes[t]? = some k ∧ k.isInterface = false
theorem NI.inst {Z : State} {a0 : Array Value} {K : String} {n : Nat} (wk : (Jvm.Cond.instantiable K n).before a0 Z = true) : NI Z K := by
  obtain ⟨t', k', g1, g2, g5, g7, -⟩ := Cond.instantiable_spec wk
  refine ⟨t', k', g1, g2, ?_⟩
  cases q : k'.isInterface with
  | false => rfl
  | true => simp [q] at g7
theorem NI.sel {Z : State} {a0 : Array Value} {C : String} {x y : MethodName} (w : (Jvm.Cond.selects C x y).before a0 Z = true) : NI Z y.cls := by
  obtain ⟨c2, r2, m2, q1, q2, q3, q4, kP, hkP, hkPi⟩ := Cond.selects_spec w
  exact ⟨_, kP, findClass_of_methodNamed q3, hkP, hkPi⟩
theorem own_root {Z : State} {a0 : Array Value} {O K : String} (w : (Jvm.Cond.noSuperclass O).before a0 Z = true) (wk : NI Z K) (hn : O ≠ K) : NS Z O K := by
  obtain ⟨c, k, h1, h2, h3, -, -⟩ := Cond.noSuperclass_spec w
  obtain ⟨t, -, g1, -⟩ := wk
  have ne := ids_ne h1 g1 hn
  refine ⟨c, t, h1, g1, fun fuel => ?_⟩
  cases fuel with
  | zero => rfl
  | succ f => simp [Vm.isSubclassAux, ne, h2, h3]
theorem own_no {Z : State} {a0 : Array Value} {C S K : String} (w : (Jvm.Cond.superclass C S).before a0 Z = true) (wk : NI Z K) (n : NS Z C K) (hn : C ≠ K) : ∃ c t, Z.vm.findClass C = some c ∧ Z.vm.findClass K = some t ∧ Z.vm.assignable c t = false := by
  obtain ⟨c, t, h0, g0, n3⟩ := n
  obtain ⟨p, k, kp, h1, h2, h3, h4, h5, -, h7⟩ := Cond.superclass_spec h0 w
  obtain ⟨t', k', g1, g2, g8⟩ := wk
  cases g0.symm.trans g1
  have ne := ids_ne h0 g0 hn
  refine ⟨c, t, h0, g0, ?_⟩
  show Z.vm.assignableAux (255 + 1) c t = false
  cases hk : k'.kind <;> simp [Vm.assignableAux, ne, h2, g2, h5, hk, g8, Vm.isSubclass, n3]
def Q_rm5_3 (Z : State) (a1 : Addr) (a2 : Addr) (h0 : Heap) (n0 : Nat) (v : Option Value) (h : Heap) (L : List Loc) : Prop := v = some (.int (0 : Int32)) ∧ Fr n0 L ∧ h = h0
set_option maxRecDepth 65536 in
set_option maxHeartbeats 40000000 in
theorem rm5_3 (l : Launch) (Z : State) (a0 : Array Value) (hw : ∀ d ∈ tables_1, d.before a0 Z = true) (ws : List Jvm.Cond) (a1 : Addr) (a2 : Addr) (h0 : Heap) (n0 : Nat) (OL0 : Old Z n0 h0) (pr1 : Exa Z h0 a2 "java/lang/Integer") :
    MetFree l (⟨"com/example/larch/larch/model/Interval", "equals", "(Ljava/lang/Object;)Z"⟩ : MethodName) (head1 (Jvm.Cond.code (⟨"com/example/larch/larch/model/Interval", "equals", "(Ljava/lang/Object;)Z"⟩ : MethodName) prog_7_method_6_code 4 (some .boolean) :: ws) ({ frames := 0, cells := 0, slots := 0, locals := 0 } : Room)) (fun a U => a = #[(.ref a1), (.ref a2)] ∧ Z.Warmed39 U.vm ∧ U.heap = h0) (fun _ _ _ _ _ => True) (fun _ U o U' => ∃ v L, o = .returned v ∧ Q_rm5_3 Z a1 a2 h0 n0 v U'.heap L ∧ FrameEnd U o U' L ({ frames := 0, cells := 0, slots := 0, locals := 0 } : Room).cells ({ frames := 0, cells := 0, slots := 0, locals := 0 } : Room).slots) := by
  refine MetFree.of_bodySF (plainFor_of_name pn_1) hisR ?_
  intro p e s m args below meth c s₁ Bd hml0 hP hK
  obtain ⟨rfl, hZ, hh⟩ := hP
  have hx := Bd.exec
  have hby := Bd.bytes
  have hml : c.maxLocals = 4 := hml0
  have hown : s.vm.findClass "com/example/larch/larch/model/Interval" = some m.cls := findClass_of_methodNamed Bd.named
  have hnm := (name_of_methodNamed Bd.named Bd.method).1
  have X0 : Stand p l e ({ frames := 0, cells := 0, slots := 0, locals := 0 } : Room) s m #[(.ref a1), (.ref a2)] below meth c s₁ [] 0 0 := Stand.of_body Bd
  have e0 : s₁.heap = h0 := by rw [← hh, Bd.state]; rfl
  have N0 := Fr.nil n0
  have pre0 : ∀ t, Steps p.tables e below (s₁.setTop (mkF m 0 #[.val (.ref a1), .val (.ref a2), .unset, .unset] [])) t → Steps p.tables e below (s₁.setTop (entryFrame m #[(.ref a1), (.ref a2)] 4)) t := fun t k => castTop (ef_5_3 m a1 a2) k
  obtain ⟨T3, X3, e3, st3⟩ := instNo X0 hx hZ hown (wd47 hw) e0 pr1 (own_no (wd70 hw) (NI.inst (wd18 hw)) (NS.step (wd70 hw) (NS.step (wd71 hw) (own_root (wd72 hw) (NI.inst (wd18 hw)) (by decide)) (by decide)) (by decide)) (by decide)) (g := (mkF m 3 #[.val (.ref a1), .val (.ref a2), .val (.int (0 : Int32)), .unset] [(.ref a2)])) rfl rfl (hb hby d5_3)
  obtain ⟨fs, hr, hrun, hended, hW, hsame⟩ := X3.leave (v := some (.int (0 : Int32))) (fun h => by rw [Bd.returns] at h; cases h)
  refine ⟨_, _, pre0 _ ?_, hrun, hended, _, _, rfl, ?_, ⟨_, rfl⟩, hW, hsame.mono (by decide) (by decide)⟩
  · show Steps p.tables e below (s₁.setTop (mkF m 0 #[.val (.ref a1), .val (.ref a2), .unset, .unset] [])) _
    refine XS.iconst X0.here hx rfl (hb hby d5_0) ?_
    refine XS.istoreN X0.here hx rfl (hb hby d5_1) rfl (l' := #[.val (.ref a1), .val (.ref a2), .val (.int (0 : Int32)), .unset]) rfl ?_
    refine XS.aloadN X0.here hx rfl (hb hby d5_2) rfl rfl ?_
    show Steps p.tables e below (s₁.setTop (mkF m 3 #[.val (.ref a1), .val (.ref a2), .val (.int (0 : Int32)), .unset] [(.ref a2)])) _
    refine st3 _ ?_
    show Steps p.tables e below (T3.setTop (mkF m 6 #[.val (.ref a1), .val (.ref a2), .val (.int (0 : Int32)), .unset] [(.int (0 : Int32))])) _
    refine XS.ifYes X3.here hx rfl (pc0 := 6) (pc' := 42) rfl (hb hby d5_6) rfl ((if0 _ _).trans (teq (rfl : (0 : Int32) = (0 : Int32))).1) (by decide) (by decide) ?_
    show Steps p.tables e below (T3.setTop (mkF m 42 #[.val (.ref a1), .val (.ref a2), .val (.int (0 : Int32)), .unset] [])) _
    refine XS.iloadN X3.here hx rfl (hb hby d5_42) rfl ?_
    show Steps p.tables e below (T3.setTop (mkF m 43 #[.val (.ref a1), .val (.ref a2), .val (.int (0 : Int32)), .unset] [(.int (0 : Int32))])) _
    exact retN X3 hx (t := .boolean) Bd.returns (by simp) (hb hby d5_43) hr
  · show Q_rm5_3 Z a1 a2 h0 n0 _ T3.heap _
    rw [e3]
    exact ⟨rfl, N0, rfl⟩
theorem d6_13 : decode jdk_33_method_22_code 13 = .ok (.getstatic 195, 3) := by decide +kernel
theorem d6_16 : decode jdk_33_method_22_code 16 = .ok (.iload_n 0, 1) := by decide +kernel
theorem d6_17 : decode jdk_33_method_22_code 17 = .ok (.sipush 128, 3) := by decide +kernel
theorem d6_20 : decode jdk_33_method_22_code 20 = .ok (.iadd, 1) := by decide +kernel
theorem d6_21 : decode jdk_33_method_22_code 21 = .ok (.aaload, 1) := by decide +kernel
theorem d6_22 : decode jdk_33_method_22_code 22 = .ok (.areturn, 1) := by decide +kernel
def Q_rm6_1 (Z : State) (p1 : Int32) (w3 : Addr) (w5 : Addr) (h0 : Heap) (n0 : Nat) (v : Option Value) (h : Heap) (L : List Loc) : Prop := v = some (.ref w5) ∧ Fr n0 L ∧ h = h0
set_option maxRecDepth 65536 in
set_option maxHeartbeats 40000000 in
theorem rm6_1 (l : Launch) (Z : State) (a0 : Array Value) (hw : ∀ d ∈ tables_1, d.before a0 Z = true) (ws : List Jvm.Cond) (p1 : Int32) (w3 : Addr) (w5 : Addr) (h0 : Heap) (n0 : Nat) (OL0 : Old Z n0 h0) (pr1 : ¬ (p1 < (-128 : Int32))) (pr2 : Sta Z Z.heap "java/lang/Integer$IntegerCache" "high" "I" (.int (127 : Int32))) (pr3 : ¬ ((127 : Int32) < p1)) (pr4 : Sta Z Z.heap "java/lang/Integer$IntegerCache" "cache" "[Ljava/lang/Integer;" (.ref w3)) (pr5 : AtC Z w3 (.object "java/lang/Integer") (p1 + (128 : Int32)) w5) :
    MetFree l (⟨"java/lang/Integer", "valueOf", "(I)Ljava/lang/Integer;"⟩ : MethodName) (head1 (Jvm.Cond.code (⟨"java/lang/Integer", "valueOf", "(I)Ljava/lang/Integer;"⟩ : MethodName) jdk_33_method_22_code 1 (some (.object "java/lang/Integer")) :: ws) ({ frames := 0, cells := 0, slots := 0, locals := 0 } : Room)) (fun a U => a = #[(.int p1)] ∧ Z.Warmed39 U.vm ∧ U.heap = h0) (fun _ _ _ _ _ => True) (fun _ U o U' => ∃ v L, o = .returned v ∧ Q_rm6_1 Z p1 w3 w5 h0 n0 v U'.heap L ∧ FrameEnd U o U' L ({ frames := 0, cells := 0, slots := 0, locals := 0 } : Room).cells ({ frames := 0, cells := 0, slots := 0, locals := 0 } : Room).slots) := by
  refine MetFree.of_bodySF (plainFor_of_name pn_3) hisR ?_
  intro p e s m args below meth c s₁ Bd hml0 hP hK
  obtain ⟨rfl, hZ, hh⟩ := hP
  have hx := Bd.exec
  have hby := Bd.bytes
  have hml : c.maxLocals = 1 := hml0
  have hown : s.vm.findClass "java/lang/Integer" = some m.cls := findClass_of_methodNamed Bd.named
  have hnm := (name_of_methodNamed Bd.named Bd.method).1
  have X0 : Stand p l e ({ frames := 0, cells := 0, slots := 0, locals := 0 } : Room) s m #[(.int p1)] below meth c s₁ [] 0 0 := Stand.of_body Bd
  have e0 : s₁.heap = h0 := by rw [← hh, Bd.state]; rfl
  have N0 := Fr.nil n0
  have pre0 : ∀ t, Steps p.tables e below (s₁.setTop (mkF m 0 #[.val (.int p1)] [])) t → Steps p.tables e below (s₁.setTop (entryFrame m #[(.int p1)] 1)) t := fun t k => castTop (ef_6_7 m p1) k
  obtain ⟨T2, X2, e2, st2⟩ := getS2 X0 hx hZ hown (host := "") (Or.inl (wd53 hw)) Via.refl e0 (pr2.ext OL0.2) (g := (mkF m 7 #[.val (.int p1)] [(.int p1)])) rfl (hb hby d6_7)
  obtain ⟨T4, X4, e4, st4⟩ := getS2 X2 hx hZ hown (host := "") (Or.inl (wd73 hw)) Via.refl e2 (pr4.ext OL0.2) (g := (mkF m 13 #[.val (.int p1)] [])) rfl (hb hby d6_13)
  obtain ⟨cl6, Ar06, hin6, hat6⟩ := id pr5
  have Ar6 := Ar06.ext OL0.2
  obtain ⟨fs, hr, hrun, hended, hW, hsame⟩ := X4.leave (v := some (.ref w5)) (fun h => by rw [Bd.returns] at h; cases h)
  refine ⟨_, _, pre0 _ ?_, hrun, hended, _, _, rfl, ?_, ⟨_, rfl⟩, hW, hsame.mono (by decide) (by decide)⟩
  · show Steps p.tables e below (s₁.setTop (mkF m 0 #[.val (.int p1)] [])) _
    refine XS.iloadN X0.here hx rfl (hb hby d6_0) rfl ?_
    refine XS.bipush X0.here hx rfl (hb hby d6_1) ?_
    show Steps p.tables e below (s₁.setTop (mkF m 3 #[.val (.int p1)] [(.int (-128 : Int32)), (.int p1)])) _
    refine XS.icmpNo X0.here hx rfl (hb hby d6_3) rfl (flt pr1).1 ?_
    show Steps p.tables e below (s₁.setTop (mkF m 6 #[.val (.int p1)] [])) _
    refine XS.iloadN X0.here hx rfl (hb hby d6_6) rfl ?_
    show Steps p.tables e below (s₁.setTop (mkF m 7 #[.val (.int p1)] [(.int p1)])) _
    refine st2 _ ?_
    show Steps p.tables e below (T2.setTop (mkF m 10 #[.val (.int p1)] [(.int (127 : Int32)), (.int p1)])) _
    refine XS.icmpNo X2.here hx rfl (hb hby d6_10) rfl (flt pr3).2.2.1 ?_
    show Steps p.tables e below (T2.setTop (mkF m 13 #[.val (.int p1)] [])) _
    refine st4 _ ?_
    show Steps p.tables e below (T4.setTop (mkF m 16 #[.val (.int p1)] [(.ref w3)])) _
    refine XS.iloadN X4.here hx rfl (hb hby d6_16) rfl ?_
    refine XS.sipush X4.here hx rfl (hb hby d6_17) ?_
    show Steps p.tables e below (T4.setTop (mkF m 20 #[.val (.int p1)] [(.int (128 : Int32)), (.int p1), (.ref w3)])) _
    refine XS.iadd X4.here hx rfl (hb hby d6_20) rfl ?_
    show Steps p.tables e below (T4.setTop (mkF m 21 #[.val (.int p1)] [(.int (p1 + (128 : Int32))), (.ref w3)])) _
    refine X4.aaload hx (j := (p1 + (128 : Int32))) (v := (.ref w5)) (by rw [e4]; exact Ar6.1) (State.isArrayOf_alike hZ.alike Ar6.2.1) rfl Ar6.2.2 hin6 hat6 (g := (mkF m 21 #[.val (.int p1)] [(.int (p1 + (128 : Int32))), (.ref w3)])) rfl rfl (hb hby d6_21) _ ?_
    show Steps p.tables e below (T4.setTop (mkF m 22 #[.val (.int p1)] [(.ref w5)])) _
    jvm_step X4.here [X4.here.top, hx, (hb hby d6_22), X4.method', Bd.returns, Value.isRef, FieldType.isReference]
    first | (intro acts; rw [hr _ acts rfl rfl rfl]) | rw [hr _ _ rfl rfl rfl]
    exact Steps.refl _
  · show Q_rm6_1 Z p1 w3 w5 h0 n0 _ T4.heap _
    rw [e4]
    exact ⟨rfl, N0, rfl⟩
def Q_rm5_4 (Z : State) (a1 : Addr) (w2 : Addr) (h0 : Heap) (n0 : Nat) (v : Option Value) (h : Heap) (L : List Loc) : Prop := v = some (.int (0 : Int32)) ∧ Fr n0 L ∧ h = h0
set_option maxRecDepth 65536 in
set_option maxHeartbeats 40000000 in
theorem rm5_4 (l : Launch) (Z : State) (a0 : Array Value) (hw : ∀ d ∈ tables_1, d.before a0 Z = true) (ws : List Jvm.Cond) (a1 : Addr) (w2 : Addr) (h0 : Heap) (n0 : Nat) (OL0 : Old Z n0 h0) (pr1 : Exa Z Z.heap w2 "java/lang/Integer") :
    MetFree l (⟨"com/example/larch/larch/model/Interval", "equals", "(Ljava/lang/Object;)Z"⟩ : MethodName) (head1 (Jvm.Cond.code (⟨"com/example/larch/larch/model/Interval", "equals", "(Ljava/lang/Object;)Z"⟩ : MethodName) prog_7_method_6_code 4 (some .boolean) :: ws) ({ frames := 0, cells := 0, slots := 0, locals := 0 } : Room)) (fun a U => a = #[(.ref a1), (.ref w2)] ∧ Z.Warmed39 U.vm ∧ U.heap = h0) (fun _ _ _ _ _ => True) (fun _ U o U' => ∃ v L, o = .returned v ∧ Q_rm5_4 Z a1 w2 h0 n0 v U'.heap L ∧ FrameEnd U o U' L ({ frames := 0, cells := 0, slots := 0, locals := 0 } : Room).cells ({ frames := 0, cells := 0, slots := 0, locals := 0 } : Room).slots) := by
  refine MetFree.of_bodySF (plainFor_of_name pn_1) hisR ?_
  intro p e s m args below meth c s₁ Bd hml0 hP hK
  obtain ⟨rfl, hZ, hh⟩ := hP
  have hx := Bd.exec
  have hby := Bd.bytes
  have hml : c.maxLocals = 4 := hml0
  have hown : s.vm.findClass "com/example/larch/larch/model/Interval" = some m.cls := findClass_of_methodNamed Bd.named
  have hnm := (name_of_methodNamed Bd.named Bd.method).1
  have X0 : Stand p l e ({ frames := 0, cells := 0, slots := 0, locals := 0 } : Room) s m #[(.ref a1), (.ref w2)] below meth c s₁ [] 0 0 := Stand.of_body Bd
  have e0 : s₁.heap = h0 := by rw [← hh, Bd.state]; rfl
  have N0 := Fr.nil n0
  have pre0 : ∀ t, Steps p.tables e below (s₁.setTop (mkF m 0 #[.val (.ref a1), .val (.ref w2), .unset, .unset] [])) t → Steps p.tables e below (s₁.setTop (entryFrame m #[(.ref a1), (.ref w2)] 4)) t := fun t k => castTop (ef_5_3 m a1 w2) k
  obtain ⟨T3, X3, e3, st3⟩ := instNo X0 hx hZ hown (wd47 hw) e0 (pr1.ext OL0.2) (own_no (wd70 hw) (NI.inst (wd18 hw)) (NS.step (wd70 hw) (NS.step (wd71 hw) (own_root (wd72 hw) (NI.inst (wd18 hw)) (by decide)) (by decide)) (by decide)) (by decide)) (g := (mkF m 3 #[.val (.ref a1), .val (.ref w2), .val (.int (0 : Int32)), .unset] [(.ref w2)])) rfl rfl (hb hby d5_3)
  obtain ⟨fs, hr, hrun, hended, hW, hsame⟩ := X3.leave (v := some (.int (0 : Int32))) (fun h => by rw [Bd.returns] at h; cases h)
  refine ⟨_, _, pre0 _ ?_, hrun, hended, _, _, rfl, ?_, ⟨_, rfl⟩, hW, hsame.mono (by decide) (by decide)⟩
  · show Steps p.tables e below (s₁.setTop (mkF m 0 #[.val (.ref a1), .val (.ref w2), .unset, .unset] [])) _
    refine XS.iconst X0.here hx rfl (hb hby d5_0) ?_
    refine XS.istoreN X0.here hx rfl (hb hby d5_1) rfl (l' := #[.val (.ref a1), .val (.ref w2), .val (.int (0 : Int32)), .unset]) rfl ?_
    refine XS.aloadN X0.here hx rfl (hb hby d5_2) rfl rfl ?_
    show Steps p.tables e below (s₁.setTop (mkF m 3 #[.val (.ref a1), .val (.ref w2), .val (.int (0 : Int32)), .unset] [(.ref w2)])) _
    refine st3 _ ?_
    show Steps p.tables e below (T3.setTop (mkF m 6 #[.val (.ref a1), .val (.ref w2), .val (.int (0 : Int32)), .unset] [(.int (0 : Int32))])) _
    refine XS.ifYes X3.here hx rfl (pc0 := 6) (pc' := 42) rfl (hb hby d5_6) rfl ((if0 _ _).trans (teq (rfl : (0 : Int32) = (0 : Int32))).1) (by decide) (by decide) ?_
    show Steps p.tables e below (T3.setTop (mkF m 42 #[.val (.ref a1), .val (.ref w2), .val (.int (0 : Int32)), .unset] [])) _
    refine XS.iloadN X3.here hx rfl (hb hby d5_42) rfl ?_
    show Steps p.tables e below (T3.setTop (mkF m 43 #[.val (.ref a1), .val (.ref w2), .val (.int (0 : Int32)), .unset] [(.int (0 : Int32))])) _
    exact retN X3 hx (t := .boolean) Bd.returns (by simp) (hb hby d5_43) hr
  · show Q_rm5_4 Z a1 w2 h0 n0 _ T3.heap _
    rw [e3]
    exact ⟨rfl, N0, rfl⟩
def Q_rm5_5 (Z : State) (a1 : Addr) (w4 : Addr) (p7 : Int32) (h0 : Heap) (n0 : Nat) (v : Option Value) (h : Heap) (L : List Loc) : Prop := v = some (.int (1 : Int32)) ∧ Fr n0 L ∧ h = h0
set_option maxRecDepth 65536 in
set_option maxHeartbeats 40000000 in
theorem rm5_5 (l : Launch) (Z : State) (a0 : Array Value) (hw : ∀ d ∈ tables_1, d.before a0 Z = true) (ws : List Jvm.Cond) (a1 : Addr) (w4 : Addr) (p7 : Int32) (h0 : Heap) (n0 : Nat) (OL0 : Old Z n0 h0) (pr1 : Exa Z h0 a1 "com/example/larch/larch/model/Interval") (pr2 : Fld Z h0 a1 "com/example/larch/larch/model/Interval" "unit" "Lcom/example/larch/larch/model/IntervalUnit;" (.ref w4)) (pr3 : Fld Z h0 a1 "com/example/larch/larch/model/Interval" "length" "I" (.int p7)) :
    MetFree l (⟨"com/example/larch/larch/model/Interval", "equals", "(Ljava/lang/Object;)Z"⟩ : MethodName) (head1 (Jvm.Cond.code (⟨"com/example/larch/larch/model/Interval", "equals", "(Ljava/lang/Object;)Z"⟩ : MethodName) prog_7_method_6_code 4 (some .boolean) :: ws) ({ frames := 0, cells := 0, slots := 0, locals := 0 } : Room)) (fun a U => a = #[(.ref a1), (.ref a1)] ∧ Z.Warmed39 U.vm ∧ U.heap = h0) (fun _ _ _ _ _ => True) (fun _ U o U' => ∃ v L, o = .returned v ∧ Q_rm5_5 Z a1 w4 p7 h0 n0 v U'.heap L ∧ FrameEnd U o U' L ({ frames := 0, cells := 0, slots := 0, locals := 0 } : Room).cells ({ frames := 0, cells := 0, slots := 0, locals := 0 } : Room).slots) := by
  refine MetFree.of_bodySF (plainFor_of_name pn_1) hisR ?_
  intro p e s m args below meth c s₁ Bd hml0 hP hK
  obtain ⟨rfl, hZ, hh⟩ := hP
  have hx := Bd.exec
  have hby := Bd.bytes
  have hml : c.maxLocals = 4 := hml0
  have hown : s.vm.findClass "com/example/larch/larch/model/Interval" = some m.cls := findClass_of_methodNamed Bd.named
  have hnm := (name_of_methodNamed Bd.named Bd.method).1
  have X0 : Stand p l e ({ frames := 0, cells := 0, slots := 0, locals := 0 } : Room) s m #[(.ref a1), (.ref a1)] below meth c s₁ [] 0 0 := Stand.of_body Bd
  have e0 : s₁.heap = h0 := by rw [← hh, Bd.state]; rfl
  have N0 := Fr.nil n0
  have pre0 : ∀ t, Steps p.tables e below (s₁.setTop (mkF m 0 #[.val (.ref a1), .val (.ref a1), .unset, .unset] [])) t → Steps p.tables e below (s₁.setTop (entryFrame m #[(.ref a1), (.ref a1)] 4)) t := fun t k => castTop (ef_5_3 m a1 a1) k
  obtain ⟨T2, X2, e2, st2⟩ := instY X0 hx hZ hown (wd47 hw) e0 (Ins.self pr1) (g := (mkF m 3 #[.val (.ref a1), .val (.ref a1), .val (.int (0 : Int32)), .unset] [(.ref a1)])) rfl rfl (hb hby d5_3)
  obtain ⟨T3, X3, e3, st3⟩ := castY X2 hx hZ hown (wd47 hw) e2 (Ins.self pr1) (g := (mkF m 10 #[.val (.ref a1), .val (.ref a1), .val (.int (0 : Int32)), .unset] [(.ref a1)])) rfl rfl (hb hby d5_10)
  obtain ⟨T5, X5, e5, st5⟩ := getF X3 hx hZ hown (host := "") (Or.inl (wd38 hw)) Via.refl e3 pr2 (g := (mkF m 15 #[.val (.ref a1), .val (.ref a1), .val (.int (0 : Int32)), .val (.ref a1)] [(.ref a1)])) rfl rfl (hb hby d5_15)
  obtain ⟨T6, X6, e6, st6⟩ := getF X5 hx hZ hown (host := "") (Or.inl (wd38 hw)) Via.refl e5 pr2 (g := (mkF m 19 #[.val (.ref a1), .val (.ref a1), .val (.int (0 : Int32)), .val (.ref a1)] [(.ref a1), (.ref w4)])) rfl rfl (hb hby d5_19)
  obtain ⟨T8, X8, e8, st8⟩ := getF X6 hx hZ hown (host := "") (Or.inl (wd40 hw)) Via.refl e6 pr3 (g := (mkF m 26 #[.val (.ref a1), .val (.ref a1), .val (.int (0 : Int32)), .val (.ref a1)] [(.ref a1)])) rfl rfl (hb hby d5_26)
  obtain ⟨T9, X9, e9, st9⟩ := getF X8 hx hZ hown (host := "") (Or.inl (wd40 hw)) Via.refl e8 pr3 (g := (mkF m 30 #[.val (.ref a1), .val (.ref a1), .val (.int (0 : Int32)), .val (.ref a1)] [(.ref a1), (.int p7)])) rfl rfl (hb hby d5_30)
  obtain ⟨fs, hr, hrun, hended, hW, hsame⟩ := X9.leave (v := some (.int (1 : Int32))) (fun h => by rw [Bd.returns] at h; cases h)
  refine ⟨_, _, pre0 _ ?_, hrun, hended, _, _, rfl, ?_, ⟨_, rfl⟩, hW, hsame.mono (by decide) (by decide)⟩
  · show Steps p.tables e below (s₁.setTop (mkF m 0 #[.val (.ref a1), .val (.ref a1), .unset, .unset] [])) _
    refine XS.iconst X0.here hx rfl (hb hby d5_0) ?_
    refine XS.istoreN X0.here hx rfl (hb hby d5_1) rfl (l' := #[.val (.ref a1), .val (.ref a1), .val (.int (0 : Int32)), .unset]) rfl ?_
    refine XS.aloadN X0.here hx rfl (hb hby d5_2) rfl rfl ?_
    show Steps p.tables e below (s₁.setTop (mkF m 3 #[.val (.ref a1), .val (.ref a1), .val (.int (0 : Int32)), .unset] [(.ref a1)])) _
    refine st2 _ ?_
    show Steps p.tables e below (T2.setTop (mkF m 6 #[.val (.ref a1), .val (.ref a1), .val (.int (0 : Int32)), .unset] [(.int (1 : Int32))])) _
    refine XS.ifNo X2.here hx rfl (hb hby d5_6) rfl ((if0 _ _).trans (feq (by decide : ¬ ((1 : Int32) = (0 : Int32)))).1) ?_
    show Steps p.tables e below (T2.setTop (mkF m 9 #[.val (.ref a1), .val (.ref a1), .val (.int (0 : Int32)), .unset] [])) _
    refine XS.aloadN X2.here hx rfl (hb hby d5_9) rfl rfl ?_
    show Steps p.tables e below (T2.setTop (mkF m 10 #[.val (.ref a1), .val (.ref a1), .val (.int (0 : Int32)), .unset] [(.ref a1)])) _
    refine st3 _ ?_
    show Steps p.tables e below (T3.setTop (mkF m 13 #[.val (.ref a1), .val (.ref a1), .val (.int (0 : Int32)), .unset] [(.ref a1)])) _
    refine XS.astoreN X3.here hx rfl (hb hby d5_13) rfl rfl (l' := #[.val (.ref a1), .val (.ref a1), .val (.int (0 : Int32)), .val (.ref a1)]) rfl ?_
    refine XS.aloadN X3.here hx rfl (hb hby d5_14) rfl rfl ?_
    show Steps p.tables e below (T3.setTop (mkF m 15 #[.val (.ref a1), .val (.ref a1), .val (.int (0 : Int32)), .val (.ref a1)] [(.ref a1)])) _
    refine st5 _ ?_
    show Steps p.tables e below (T5.setTop (mkF m 18 #[.val (.ref a1), .val (.ref a1), .val (.int (0 : Int32)), .val (.ref a1)] [(.ref w4)])) _
    refine XS.aloadN X5.here hx rfl (hb hby d5_18) rfl rfl ?_
    show Steps p.tables e below (T5.setTop (mkF m 19 #[.val (.ref a1), .val (.ref a1), .val (.int (0 : Int32)), .val (.ref a1)] [(.ref a1), (.ref w4)])) _
    refine st6 _ ?_
    show Steps p.tables e below (T6.setTop (mkF m 22 #[.val (.ref a1), .val (.ref a1), .val (.int (0 : Int32)), .val (.ref a1)] [(.ref w4), (.ref w4)])) _
    refine Jvm.RoadKit.acmp (g := (mkF m 22 #[.val (.ref a1), .val (.ref a1), .val (.int (0 : Int32)), .val (.ref a1)] [(.ref w4), (.ref w4)])) X6 hx rfl rfl rfl (pc0 := 22) (pc' := 25) (same := true) rfl (hb hby d5_22) rfl (decide_eq_true rfl) (by decide) (by decide) ?_
    show Steps p.tables e below (T6.setTop (mkF m 25 #[.val (.ref a1), .val (.ref a1), .val (.int (0 : Int32)), .val (.ref a1)] [])) _
    refine XS.aloadN X6.here hx rfl (hb hby d5_25) rfl rfl ?_
    show Steps p.tables e below (T6.setTop (mkF m 26 #[.val (.ref a1), .val (.ref a1), .val (.int (0 : Int32)), .val (.ref a1)] [(.ref a1)])) _
    refine st8 _ ?_
    show Steps p.tables e below (T8.setTop (mkF m 29 #[.val (.ref a1), .val (.ref a1), .val (.int (0 : Int32)), .val (.ref a1)] [(.int p7)])) _
    refine XS.aloadN X8.here hx rfl (hb hby d5_29) rfl rfl ?_
    show Steps p.tables e below (T8.setTop (mkF m 30 #[.val (.ref a1), .val (.ref a1), .val (.int (0 : Int32)), .val (.ref a1)] [(.ref a1), (.int p7)])) _
    refine st9 _ ?_
    show Steps p.tables e below (T9.setTop (mkF m 33 #[.val (.ref a1), .val (.ref a1), .val (.int (0 : Int32)), .val (.ref a1)] [(.int p7), (.int p7)])) _
    refine XS.icmpNo X9.here hx rfl (hb hby d5_33) rfl (teq (rfl : p7 = p7)).2 ?_
    show Steps p.tables e below (T9.setTop (mkF m 36 #[.val (.ref a1), .val (.ref a1), .val (.int (0 : Int32)), .val (.ref a1)] [])) _
    refine XS.iconst X9.here hx rfl (hb hby d5_36) ?_
    refine XS.goto X9.here hx rfl (pc0 := 37) (pc' := 41) rfl (hb hby d5_37) (by decide) (by decide) ?_
    refine XS.istoreN X9.here hx rfl (hb hby d5_41) rfl (l' := #[.val (.ref a1), .val (.ref a1), .val (.int (1 : Int32)), .val (.ref a1)]) rfl ?_
    refine XS.iloadN X9.here hx rfl (hb hby d5_42) rfl ?_
    show Steps p.tables e below (T9.setTop (mkF m 43 #[.val (.ref a1), .val (.ref a1), .val (.int (1 : Int32)), .val (.ref a1)] [(.int (1 : Int32))])) _
    exact retN X9 hx (t := .boolean) Bd.returns (by simp) (hb hby d5_43) hr
  · show Q_rm5_5 Z a1 w4 p7 h0 n0 _ T9.heap _
    rw [e9]
    exact ⟨rfl, N0, rfl⟩
def Q_rm5_6 (Z : State) (a1 : Addr) (a2 : Addr) (w5 : Addr) (w7 : Addr) (h0 : Heap) (n0 : Nat) (v : Option Value) (h : Heap) (L : List Loc) : Prop := v = some (.int (0 : Int32)) ∧ Fr n0 L ∧ h = h0
set_option maxRecDepth 65536 in
set_option maxHeartbeats 40000000 in
theorem rm5_6 (l : Launch) (Z : State) (a0 : Array Value) (hw : ∀ d ∈ tables_1, d.before a0 Z = true) (ws : List Jvm.Cond) (a1 : Addr) (a2 : Addr) (w5 : Addr) (w7 : Addr) (h0 : Heap) (n0 : Nat) (OL0 : Old Z n0 h0) (pr1 : Exa Z h0 a2 "com/example/larch/larch/model/Interval") (pr2 : Fld Z h0 a1 "com/example/larch/larch/model/Interval" "unit" "Lcom/example/larch/larch/model/IntervalUnit;" (.ref w5)) (pr3 : Fld Z h0 a2 "com/example/larch/larch/model/Interval" "unit" "Lcom/example/larch/larch/model/IntervalUnit;" (.ref w7)) (pr4 : w5 ≠ w7) :
    MetFree l (⟨"com/example/larch/larch/model/Interval", "equals", "(Ljava/lang/Object;)Z"⟩ : MethodName) (head1 (Jvm.Cond.code (⟨"com/example/larch/larch/model/Interval", "equals", "(Ljava/lang/Object;)Z"⟩ : MethodName) prog_7_method_6_code 4 (some .boolean) :: ws) ({ frames := 0, cells := 0, slots := 0, locals := 0 } : Room)) (fun a U => a = #[(.ref a1), (.ref a2)] ∧ Z.Warmed39 U.vm ∧ U.heap = h0) (fun _ _ _ _ _ => True) (fun _ U o U' => ∃ v L, o = .returned v ∧ Q_rm5_6 Z a1 a2 w5 w7 h0 n0 v U'.heap L ∧ FrameEnd U o U' L ({ frames := 0, cells := 0, slots := 0, locals := 0 } : Room).cells ({ frames := 0, cells := 0, slots := 0, locals := 0 } : Room).slots) := by
  refine MetFree.of_bodySF (plainFor_of_name pn_1) hisR ?_
  intro p e s m args below meth c s₁ Bd hml0 hP hK
  obtain ⟨rfl, hZ, hh⟩ := hP
  have hx := Bd.exec
  have hby := Bd.bytes
  have hml : c.maxLocals = 4 := hml0
  have hown : s.vm.findClass "com/example/larch/larch/model/Interval" = some m.cls := findClass_of_methodNamed Bd.named
  have hnm := (name_of_methodNamed Bd.named Bd.method).1
  have X0 : Stand p l e ({ frames := 0, cells := 0, slots := 0, locals := 0 } : Room) s m #[(.ref a1), (.ref a2)] below meth c s₁ [] 0 0 := Stand.of_body Bd
  have e0 : s₁.heap = h0 := by rw [← hh, Bd.state]; rfl
  have N0 := Fr.nil n0
  have pre0 : ∀ t, Steps p.tables e below (s₁.setTop (mkF m 0 #[.val (.ref a1), .val (.ref a2), .unset, .unset] [])) t → Steps p.tables e below (s₁.setTop (entryFrame m #[(.ref a1), (.ref a2)] 4)) t := fun t k => castTop (ef_5_3 m a1 a2) k
  obtain ⟨T3, X3, e3, st3⟩ := instY X0 hx hZ hown (wd47 hw) e0 (Ins.self pr1) (g := (mkF m 3 #[.val (.ref a1), .val (.ref a2), .val (.int (0 : Int32)), .unset] [(.ref a2)])) rfl rfl (hb hby d5_3)
  obtain ⟨T4, X4, e4, st4⟩ := castY X3 hx hZ hown (wd47 hw) e3 (Ins.self pr1) (g := (mkF m 10 #[.val (.ref a1), .val (.ref a2), .val (.int (0 : Int32)), .unset] [(.ref a2)])) rfl rfl (hb hby d5_10)
  obtain ⟨T6, X6, e6, st6⟩ := getF X4 hx hZ hown (host := "") (Or.inl (wd38 hw)) Via.refl e4 pr2 (g := (mkF m 15 #[.val (.ref a1), .val (.ref a2), .val (.int (0 : Int32)), .val (.ref a2)] [(.ref a1)])) rfl rfl (hb hby d5_15)
  obtain ⟨T8, X8, e8, st8⟩ := getF X6 hx hZ hown (host := "") (Or.inl (wd38 hw)) Via.refl e6 pr3 (g := (mkF m 19 #[.val (.ref a1), .val (.ref a2), .val (.int (0 : Int32)), .val (.ref a2)] [(.ref a2), (.ref w5)])) rfl rfl (hb hby d5_19)
  obtain ⟨fs, hr, hrun, hended, hW, hsame⟩ := X8.leave (v := some (.int (0 : Int32))) (fun h => by rw [Bd.returns] at h; cases h)
  refine ⟨_, _, pre0 _ ?_, hrun, hended, _, _, rfl, ?_, ⟨_, rfl⟩, hW, hsame.mono (by decide) (by decide)⟩
  · show Steps p.tables e below (s₁.setTop (mkF m 0 #[.val (.ref a1), .val (.ref a2), .unset, .unset] [])) _
    refine XS.iconst X0.here hx rfl (hb hby d5_0) ?_
    refine XS.istoreN X0.here hx rfl (hb hby d5_1) rfl (l' := #[.val (.ref a1), .val (.ref a2), .val (.int (0 : Int32)), .unset]) rfl ?_
    refine XS.aloadN X0.here hx rfl (hb hby d5_2) rfl rfl ?_
    show Steps p.tables e below (s₁.setTop (mkF m 3 #[.val (.ref a1), .val (.ref a2), .val (.int (0 : Int32)), .unset] [(.ref a2)])) _
    refine st3 _ ?_
    show Steps p.tables e below (T3.setTop (mkF m 6 #[.val (.ref a1), .val (.ref a2), .val (.int (0 : Int32)), .unset] [(.int (1 : Int32))])) _
    refine XS.ifNo X3.here hx rfl (hb hby d5_6) rfl ((if0 _ _).trans (feq (by decide : ¬ ((1 : Int32) = (0 : Int32)))).1) ?_
    show Steps p.tables e below (T3.setTop (mkF m 9 #[.val (.ref a1), .val (.ref a2), .val (.int (0 : Int32)), .unset] [])) _
    refine XS.aloadN X3.here hx rfl (hb hby d5_9) rfl rfl ?_
    show Steps p.tables e below (T3.setTop (mkF m 10 #[.val (.ref a1), .val (.ref a2), .val (.int (0 : Int32)), .unset] [(.ref a2)])) _
    refine st4 _ ?_
    show Steps p.tables e below (T4.setTop (mkF m 13 #[.val (.ref a1), .val (.ref a2), .val (.int (0 : Int32)), .unset] [(.ref a2)])) _
    refine XS.astoreN X4.here hx rfl (hb hby d5_13) rfl rfl (l' := #[.val (.ref a1), .val (.ref a2), .val (.int (0 : Int32)), .val (.ref a2)]) rfl ?_
    refine XS.aloadN X4.here hx rfl (hb hby d5_14) rfl rfl ?_
    show Steps p.tables e below (T4.setTop (mkF m 15 #[.val (.ref a1), .val (.ref a2), .val (.int (0 : Int32)), .val (.ref a2)] [(.ref a1)])) _
    refine st6 _ ?_
    show Steps p.tables e below (T6.setTop (mkF m 18 #[.val (.ref a1), .val (.ref a2), .val (.int (0 : Int32)), .val (.ref a2)] [(.ref w5)])) _
    refine XS.aloadN X6.here hx rfl (hb hby d5_18) rfl rfl ?_
    show Steps p.tables e below (T6.setTop (mkF m 19 #[.val (.ref a1), .val (.ref a2), .val (.int (0 : Int32)), .val (.ref a2)] [(.ref a2), (.ref w5)])) _
    refine st8 _ ?_
    show Steps p.tables e below (T8.setTop (mkF m 22 #[.val (.ref a1), .val (.ref a2), .val (.int (0 : Int32)), .val (.ref a2)] [(.ref w7), (.ref w5)])) _
    refine Jvm.RoadKit.acmp (g := (mkF m 22 #[.val (.ref a1), .val (.ref a2), .val (.int (0 : Int32)), .val (.ref a2)] [(.ref w7), (.ref w5)])) X8 hx rfl rfl rfl (pc0 := 22) (pc' := 40) (same := false) rfl (hb hby d5_22) rfl (decide_eq_false fun q => pr4 (Value.ref.inj q)) (by decide) (by decide) ?_
    show Steps p.tables e below (T8.setTop (mkF m 40 #[.val (.ref a1), .val (.ref a2), .val (.int (0 : Int32)), .val (.ref a2)] [])) _
    refine XS.iconst X8.here hx rfl (hb hby d5_40) ?_
    refine XS.istoreN X8.here hx rfl (hb hby d5_41) rfl (l' := #[.val (.ref a1), .val (.ref a2), .val (.int (0 : Int32)), .val (.ref a2)]) rfl ?_
    refine XS.iloadN X8.here hx rfl (hb hby d5_42) rfl ?_
    show Steps p.tables e below (T8.setTop (mkF m 43 #[.val (.ref a1), .val (.ref a2), .val (.int (0 : Int32)), .val (.ref a2)] [(.int (0 : Int32))])) _
    exact retN X8 hx (t := .boolean) Bd.returns (by simp) (hb hby d5_43) hr
  · show Q_rm5_6 Z a1 a2 w5 w7 h0 n0 _ T8.heap _
    rw [e8]
    exact ⟨rfl, N0, rfl⟩
def Q_rm5_7 (Z : State) (a1 : Addr) (a2 : Addr) (w5 : Addr) (p8 : Int32) (h0 : Heap) (n0 : Nat) (v : Option Value) (h : Heap) (L : List Loc) : Prop := v = some (.int (1 : Int32)) ∧ Fr n0 L ∧ h = h0
set_option maxRecDepth 65536 in
set_option maxHeartbeats 40000000 in
theorem rm5_7 (l : Launch) (Z : State) (a0 : Array Value) (hw : ∀ d ∈ tables_1, d.before a0 Z = true) (ws : List Jvm.Cond) (a1 : Addr) (a2 : Addr) (w5 : Addr) (p8 : Int32) (h0 : Heap) (n0 : Nat) (OL0 : Old Z n0 h0) (pr1 : Exa Z h0 a2 "com/example/larch/larch/model/Interval") (pr2 : Fld Z h0 a1 "com/example/larch/larch/model/Interval" "unit" "Lcom/example/larch/larch/model/IntervalUnit;" (.ref w5)) (pr3 : Fld Z h0 a2 "com/example/larch/larch/model/Interval" "unit" "Lcom/example/larch/larch/model/IntervalUnit;" (.ref w5)) (pr4 : Fld Z h0 a1 "com/example/larch/larch/model/Interval" "length" "I" (.int p8)) (pr5 : Fld Z h0 a2 "com/example/larch/larch/model/Interval" "length" "I" (.int p8)) :
    MetFree l (⟨"com/example/larch/larch/model/Interval", "equals", "(Ljava/lang/Object;)Z"⟩ : MethodName) (head1 (Jvm.Cond.code (⟨"com/example/larch/larch/model/Interval", "equals", "(Ljava/lang/Object;)Z"⟩ : MethodName) prog_7_method_6_code 4 (some .boolean) :: ws) ({ frames := 0, cells := 0, slots := 0, locals := 0 } : Room)) (fun a U => a = #[(.ref a1), (.ref a2)] ∧ Z.Warmed39 U.vm ∧ U.heap = h0) (fun _ _ _ _ _ => True) (fun _ U o U' => ∃ v L, o = .returned v ∧ Q_rm5_7 Z a1 a2 w5 p8 h0 n0 v U'.heap L ∧ FrameEnd U o U' L ({ frames := 0, cells := 0, slots := 0, locals := 0 } : Room).cells ({ frames := 0, cells := 0, slots := 0, locals := 0 } : Room).slots) := by
  refine MetFree.of_bodySF (plainFor_of_name pn_1) hisR ?_
  intro p e s m args below meth c s₁ Bd hml0 hP hK
  obtain ⟨rfl, hZ, hh⟩ := hP
  have hx := Bd.exec
  have hby := Bd.bytes
  have hml : c.maxLocals = 4 := hml0
  have hown : s.vm.findClass "com/example/larch/larch/model/Interval" = some m.cls := findClass_of_methodNamed Bd.named
  have hnm := (name_of_methodNamed Bd.named Bd.method).1
  have X0 : Stand p l e ({ frames := 0, cells := 0, slots := 0, locals := 0 } : Room) s m #[(.ref a1), (.ref a2)] below meth c s₁ [] 0 0 := Stand.of_body Bd
  have e0 : s₁.heap = h0 := by rw [← hh, Bd.state]; rfl
  have N0 := Fr.nil n0
  have pre0 : ∀ t, Steps p.tables e below (s₁.setTop (mkF m 0 #[.val (.ref a1), .val (.ref a2), .unset, .unset] [])) t → Steps p.tables e below (s₁.setTop (entryFrame m #[(.ref a1), (.ref a2)] 4)) t := fun t k => castTop (ef_5_3 m a1 a2) k
  obtain ⟨T3, X3, e3, st3⟩ := instY X0 hx hZ hown (wd47 hw) e0 (Ins.self pr1) (g := (mkF m 3 #[.val (.ref a1), .val (.ref a2), .val (.int (0 : Int32)), .unset] [(.ref a2)])) rfl rfl (hb hby d5_3)
  obtain ⟨T4, X4, e4, st4⟩ := castY X3 hx hZ hown (wd47 hw) e3 (Ins.self pr1) (g := (mkF m 10 #[.val (.ref a1), .val (.ref a2), .val (.int (0 : Int32)), .unset] [(.ref a2)])) rfl rfl (hb hby d5_10)
  obtain ⟨T6, X6, e6, st6⟩ := getF X4 hx hZ hown (host := "") (Or.inl (wd38 hw)) Via.refl e4 pr2 (g := (mkF m 15 #[.val (.ref a1), .val (.ref a2), .val (.int (0 : Int32)), .val (.ref a2)] [(.ref a1)])) rfl rfl (hb hby d5_15)
  obtain ⟨T7, X7, e7, st7⟩ := getF X6 hx hZ hown (host := "") (Or.inl (wd38 hw)) Via.refl e6 pr3 (g := (mkF m 19 #[.val (.ref a1), .val (.ref a2), .val (.int (0 : Int32)), .val (.ref a2)] [(.ref a2), (.ref w5)])) rfl rfl (hb hby d5_19)
  obtain ⟨T9, X9, e9, st9⟩ := getF X7 hx hZ hown (host := "") (Or.inl (wd40 hw)) Via.refl e7 pr4 (g := (mkF m 26 #[.val (.ref a1), .val (.ref a2), .val (.int (0 : Int32)), .val (.ref a2)] [(.ref a1)])) rfl rfl (hb hby d5_26)
  obtain ⟨T10, X10, e10, st10⟩ := getF X9 hx hZ hown (host := "") (Or.inl (wd40 hw)) Via.refl e9 pr5 (g := (mkF m 30 #[.val (.ref a1), .val (.ref a2), .val (.int (0 : Int32)), .val (.ref a2)] [(.ref a2), (.int p8)])) rfl rfl (hb hby d5_30)
  obtain ⟨fs, hr, hrun, hended, hW, hsame⟩ := X10.leave (v := some (.int (1 : Int32))) (fun h => by rw [Bd.returns] at h; cases h)
  refine ⟨_, _, pre0 _ ?_, hrun, hended, _, _, rfl, ?_, ⟨_, rfl⟩, hW, hsame.mono (by decide) (by decide)⟩
  · show Steps p.tables e below (s₁.setTop (mkF m 0 #[.val (.ref a1), .val (.ref a2), .unset, .unset] [])) _
    refine XS.iconst X0.here hx rfl (hb hby d5_0) ?_
    refine XS.istoreN X0.here hx rfl (hb hby d5_1) rfl (l' := #[.val (.ref a1), .val (.ref a2), .val (.int (0 : Int32)), .unset]) rfl ?_
    refine XS.aloadN X0.here hx rfl (hb hby d5_2) rfl rfl ?_
    show Steps p.tables e below (s₁.setTop (mkF m 3 #[.val (.ref a1), .val (.ref a2), .val (.int (0 : Int32)), .unset] [(.ref a2)])) _
    refine st3 _ ?_
    show Steps p.tables e below (T3.setTop (mkF m 6 #[.val (.ref a1), .val (.ref a2), .val (.int (0 : Int32)), .unset] [(.int (1 : Int32))])) _
    refine XS.ifNo X3.here hx rfl (hb hby d5_6) rfl ((if0 _ _).trans (feq (by decide : ¬ ((1 : Int32) = (0 : Int32)))).1) ?_
    show Steps p.tables e below (T3.setTop (mkF m 9 #[.val (.ref a1), .val (.ref a2), .val (.int (0 : Int32)), .unset] [])) _
    refine XS.aloadN X3.here hx rfl (hb hby d5_9) rfl rfl ?_
    show Steps p.tables e below (T3.setTop (mkF m 10 #[.val (.ref a1), .val (.ref a2), .val (.int (0 : Int32)), .unset] [(.ref a2)])) _
    refine st4 _ ?_
    show Steps p.tables e below (T4.setTop (mkF m 13 #[.val (.ref a1), .val (.ref a2), .val (.int (0 : Int32)), .unset] [(.ref a2)])) _
    refine XS.astoreN X4.here hx rfl (hb hby d5_13) rfl rfl (l' := #[.val (.ref a1), .val (.ref a2), .val (.int (0 : Int32)), .val (.ref a2)]) rfl ?_
    refine XS.aloadN X4.here hx rfl (hb hby d5_14) rfl rfl ?_
    show Steps p.tables e below (T4.setTop (mkF m 15 #[.val (.ref a1), .val (.ref a2), .val (.int (0 : Int32)), .val (.ref a2)] [(.ref a1)])) _
    refine st6 _ ?_
    show Steps p.tables e below (T6.setTop (mkF m 18 #[.val (.ref a1), .val (.ref a2), .val (.int (0 : Int32)), .val (.ref a2)] [(.ref w5)])) _
    refine XS.aloadN X6.here hx rfl (hb hby d5_18) rfl rfl ?_
    show Steps p.tables e below (T6.setTop (mkF m 19 #[.val (.ref a1), .val (.ref a2), .val (.int (0 : Int32)), .val (.ref a2)] [(.ref a2), (.ref w5)])) _
    refine st7 _ ?_
    show Steps p.tables e below (T7.setTop (mkF m 22 #[.val (.ref a1), .val (.ref a2), .val (.int (0 : Int32)), .val (.ref a2)] [(.ref w5), (.ref w5)])) _
    refine Jvm.RoadKit.acmp (g := (mkF m 22 #[.val (.ref a1), .val (.ref a2), .val (.int (0 : Int32)), .val (.ref a2)] [(.ref w5), (.ref w5)])) X7 hx rfl rfl rfl (pc0 := 22) (pc' := 25) (same := true) rfl (hb hby d5_22) rfl (decide_eq_true rfl) (by decide) (by decide) ?_
    show Steps p.tables e below (T7.setTop (mkF m 25 #[.val (.ref a1), .val (.ref a2), .val (.int (0 : Int32)), .val (.ref a2)] [])) _
    refine XS.aloadN X7.here hx rfl (hb hby d5_25) rfl rfl ?_
    show Steps p.tables e below (T7.setTop (mkF m 26 #[.val (.ref a1), .val (.ref a2), .val (.int (0 : Int32)), .val (.ref a2)] [(.ref a1)])) _
    refine st9 _ ?_
    show Steps p.tables e below (T9.setTop (mkF m 29 #[.val (.ref a1), .val (.ref a2), .val (.int (0 : Int32)), .val (.ref a2)] [(.int p8)])) _
    refine XS.aloadN X9.here hx rfl (hb hby d5_29) rfl rfl ?_
    show Steps p.tables e below (T9.setTop (mkF m 30 #[.val (.ref a1), .val (.ref a2), .val (.int (0 : Int32)), .val (.ref a2)] [(.ref a2), (.int p8)])) _
    refine st10 _ ?_
    show Steps p.tables e below (T10.setTop (mkF m 33 #[.val (.ref a1), .val (.ref a2), .val (.int (0 : Int32)), .val (.ref a2)] [(.int p8), (.int p8)])) _
    refine XS.icmpNo X10.here hx rfl (hb hby d5_33) rfl (teq (rfl : p8 = p8)).2 ?_
    show Steps p.tables e below (T10.setTop (mkF m 36 #[.val (.ref a1), .val (.ref a2), .val (.int (0 : Int32)), .val (.ref a2)] [])) _
    refine XS.iconst X10.here hx rfl (hb hby d5_36) ?_
    refine XS.goto X10.here hx rfl (pc0 := 37) (pc' := 41) rfl (hb hby d5_37) (by decide) (by decide) ?_
    refine XS.istoreN X10.here hx rfl (hb hby d5_41) rfl (l' := #[.val (.ref a1), .val (.ref a2), .val (.int (1 : Int32)), .val (.ref a2)]) rfl ?_
    refine XS.iloadN X10.here hx rfl (hb hby d5_42) rfl ?_
    show Steps p.tables e below (T10.setTop (mkF m 43 #[.val (.ref a1), .val (.ref a2), .val (.int (1 : Int32)), .val (.ref a2)] [(.int (1 : Int32))])) _
    exact retN X10 hx (t := .boolean) Bd.returns (by simp) (hb hby d5_43) hr
  · show Q_rm5_7 Z a1 a2 w5 p8 h0 n0 _ T10.heap _
    rw [e10]
    exact ⟨rfl, N0, rfl⟩
theorem ef_0 (m : MethodId) (x0 : Int32) (x1 : Int32) (x2 : Int32) (x3 : Int32) (x4 : Int32) : entryFrame m #[(.int x0), (.int x1), (.int x2), (.int x3), (.int x4)] maxLocals = mkF m 0 #[.val (.int x0), .val (.int x1), .val (.int x2), .val (.int x3), .val (.int x4), .unset, .unset, .unset, .unset, .unset, .unset, .unset, .unset, .unset, .unset, .unset] [] := by first | (simp [entryFrame, mkF, argsToLocals, Value.category, maxLocals]; done) | rfl
theorem pn_4 : plainName "com/example/larch/larch/model/IntervalEqualsPinLaw" = true := by first | (simp [plainName, overriddenIn]; done) | decide +kernel
set_option maxRecDepth 65536 in
set_option maxHeartbeats 400000000 in
theorem rm0 (l : Launch) (Z : State) (a0 : Array Value) (hw : ∀ d ∈ tables_1, d.before a0 Z = true) (ws : List Jvm.Cond) (p1 : Int32) (p2 : Int32) (p3 : Int32) (p4 : Int32) (p5 : Int32) (w_DAY : Addr) (w_WEEK : Addr) (w_MONTH : Addr) (w_YEAR : Addr) (y1 : Int32) (y2 : Int32) (y3 : Int32) (y4 : Int32) (y5 : Int32) (y6 : Int32) (y7 : Int32) (y8 : Int32) (v1 : Addr) (y9 : Int32) (y10 : Int32) (w_cache : Addr) (v2 : Addr) (h0 : Heap) (n0 : Nat) (OL0 : Old Z n0 h0) (pr1 : Sta Z Z.heap "com/example/larch/larch/model/IntervalUnit" "DAY" "Lcom/example/larch/larch/model/IntervalUnit;" (.ref w_DAY)) (pr2 : Exa Z Z.heap w_DAY "com/example/larch/larch/model/IntervalUnit") (pr3 : Sta Z Z.heap "com/example/larch/larch/model/IntervalUnit" "WEEK" "Lcom/example/larch/larch/model/IntervalUnit;" (.ref w_WEEK)) (pr4 : Exa Z Z.heap w_WEEK "com/example/larch/larch/model/IntervalUnit") (pr5 : Sta Z Z.heap "com/example/larch/larch/model/IntervalUnit" "MONTH" "Lcom/example/larch/larch/model/IntervalUnit;" (.ref w_MONTH)) (pr6 : Exa Z Z.heap w_MONTH "com/example/larch/larch/model/IntervalUnit") (pr7 : Sta Z Z.heap "com/example/larch/larch/model/IntervalUnit" "YEAR" "Lcom/example/larch/larch/model/IntervalUnit;" (.ref w_YEAR)) (pr8 : Exa Z Z.heap w_YEAR "com/example/larch/larch/model/IntervalUnit") (pr9 : (p1 &&& (3 : Int32)) = y1) (pr10 : (p5 &&& (8 : Int32)) = y2) (pr11 : (p3 &&& (3 : Int32)) = y3) (pr12 : (p2 &&& (2147483647 : Int32)) = y4) (pr13 : (own_imax (1 : Int32) y4) = y5) (pr14 : (p5 &&& (1 : Int32)) = y6) (pr15 : (p4 &&& (2147483647 : Int32)) = y7) (pr16 : (own_imax (1 : Int32) y7) = y8) (pr17 : ¬ (y1 < (0 : Int32))) (pr18 : y1 < (4 : Int32)) (pr19 : ([(.ref w_DAY), (.ref w_WEEK), (.ref w_MONTH), (.ref w_YEAR)] : List Value).getD (y1).toNatClampNeg .null = .ref v1) (pr20 : ¬ (y5 < (1 : Int32))) (pr21 : ¬ (y3 < (0 : Int32))) (pr22 : y3 < (4 : Int32)) (pr23 : ¬ (y8 < (1 : Int32))) (pr24 : ((p5.toUInt32 >>> ((1 : Int32) &&& 31).toUInt32).toInt32) = y9) (pr25 : (y9 &&& (3 : Int32)) = y10) (pr26 : ¬ (y5 < (-128 : Int32))) (pr27 : Sta Z Z.heap "java/lang/Integer$IntegerCache" "high" "I" (.int (127 : Int32))) (pr28 : ∃ c, Bxs Z w_cache c "java/lang/Integer" "I" 256 (fun j => .int (j - 128))) (pr29 : Sta Z Z.heap "java/lang/Integer$IntegerCache" "cache" "[Ljava/lang/Integer;" (.ref w_cache)) (pr30 : ([(.ref w_DAY), (.ref w_WEEK), (.ref w_MONTH), (.ref w_YEAR)] : List Value).getD (y3).toNatClampNeg .null = .ref v2) (pr31 : Fld Z Z.heap v1 "java/lang/Enum" "ordinal" "I" (.int y1)) (pr32 : Fld Z Z.heap v2 "java/lang/Enum" "ordinal" "I" (.int y3)) :
    MetFree l x (head1 (Jvm.Cond.code x code maxLocals ret :: ws) room_1) (fun a U => a = #[(.int p1), (.int p2), (.int p3), (.int p4), (.int p5)] ∧ Z.Warmed39 U.vm ∧ U.heap = h0) (fun _ _ _ _ _ => True) (fun _ U o U' => ∃ v L, o = .returned v ∧ Q0 n0 v L ∧ ReturnedEndW U o U' L 24 1152) := by
  refine MetFree.of_bodySF (plainFor_of_name pn_4) hisR ?_
  intro p e s m args below meth c s₁ Bd hml0 hP hK
  obtain ⟨rfl, hZ, hh⟩ := hP
  have hx := Bd.exec
  have hby := Bd.bytes
  have hml : c.maxLocals = 16 := hml0
  have hown : s.vm.findClass "com/example/larch/larch/model/IntervalEqualsPinLaw" = some m.cls := findClass_of_methodNamed Bd.named
  have hnm := (name_of_methodNamed Bd.named Bd.method).1
  have X0 : Stand p l e room_1 s m #[(.int p1), (.int p2), (.int p3), (.int p4), (.int p5)] below meth c s₁ [] 0 0 := Stand.of_body Bd
  have e0 : s₁.heap = h0 := by rw [← hh, Bd.state]; rfl
  have N0 := Fr.nil n0
  have pre0 : ∀ t, Steps p.tables e below (s₁.setTop (mkF m 0 #[.val (.int p1), .val (.int p2), .val (.int p3), .val (.int p4), .val (.int p5), .unset, .unset, .unset, .unset, .unset, .unset, .unset, .unset, .unset, .unset, .unset] [])) t → Steps p.tables e below (s₁.setTop (entryFrame m #[(.int p1), (.int p2), (.int p3), (.int p4), (.int p5)] maxLocals)) t := fun t k => castTop (ef_0 m p1 p2 p3 p4 p5) k
  obtain ⟨T1, h1, k1, X1, e1, E1, A1, O1, st1⟩ := newR X0 hx hZ hown (wd0 hw) (wd1 hw) e0 (g := (mkF m 1 #[.val (.int p1), .val (.int p2), .val (.int p3), .val (.int p4), .val (.int p5), .unset, .unset, .unset, .unset, .unset, .unset, .unset, .unset, .unset, .unset, .unset] [(.int (4 : Int32))])) rfl (hb hby at_1) rfl (by decide) (cap := 4) (by decide) (by decide) (by decide) (by decide)
  obtain ⟨b1, g1⟩ : ∃ z, z = h0.size := ⟨_, rfl⟩
  rw [← g1] at A1 st1
  have V1 : Arv Z h1 b1 k1 (.object "com/example/larch/larch/model/IntervalUnit") (4 : Int32) [.null, .null, .null, .null] .null := (Arv.new A1 (by decide)).pad (pad_rep [] .null 4)
  have g_b1 : n0 ≤ b1 := (Nat.le_trans (Nat.le_trans (Nat.le_of_eq OL0.1.symm) OL0.2.1) (Nat.le_of_eq g1.symm))
  have sz_b1 : h0.size ≤ b1 := (Nat.le_trans (Keep.refl h0 []).1 (Nat.le_of_eq g1.symm))
  have KK1 : Keep h0 h1 [] := (Keep.refl h0 []).ext E1
  have OL1 := OL0.ext E1
  obtain ⟨T2, X2, e2, st2⟩ := getS2 X1 hx hZ hown (host := "") (Or.inl (wd2 hw)) Via.refl e1 (pr1.ext OL1.2) (g := (mkF m 6 #[.val (.int p1), .val (.int p2), .val (.int p3), .val (.int p4), .val (.int p5), .unset, .unset, .unset, .unset, .unset, .unset, .unset, .unset, .unset, .unset, .unset] [(.int (0 : Int32)), (.ref b1), (.ref b1)])) rfl (hb hby at_6)
  obtain ⟨cl3, Ar3, q3, S3, M3, Hs3, G3⟩ := id V1
  have hin3 : ¬ ((0 : Int32) < 0 ∨ cl3.slots.size ≤ ((0 : Int32)).toNatClampNeg) := inb_of S3 ⟨by decide, by decide⟩
  obtain ⟨T4, h4, X4, e4, W4, st4⟩ := stR X2 hx hZ e2 Ar3 (j := (0 : Int32)) hin3 rfl (Sto.ofV Ar3 q3 O1 (Ins.self (pr2.ext OL1.2))) (g := (mkF m 9 #[.val (.int p1), .val (.int p2), .val (.int p3), .val (.int p4), .val (.int p5), .unset, .unset, .unset, .unset, .unset, .unset, .unset, .unset, .unset, .unset, .unset] [(.ref w_DAY), (.int (0 : Int32)), (.ref b1), (.ref b1)])) rfl rfl (hb hby at_9)
  have V4 : Arv Z h4 b1 k1 (.object "com/example/larch/larch/model/IntervalUnit") (4 : Int32) [(.ref w_DAY), .null, .null, .null] .null := Arv.set Ar3 q3 S3 M3 Hs3 G3 rfl W4 0 rfl (Nat.le_of_ble_eq_true rfl)
  have KK4 : Keep h0 h4 [] := KK1.wr W4 (Or.inr sz_b1)
  have OL4 := OL1.wr W4 g_b1
  have N4 := Fr.snoc X4 N0 g_b1
  obtain ⟨T5, X5, e5, st5⟩ := getS2 X4 hx hZ hown (host := "") (Or.inl (wd6 hw)) Via.refl e4 (pr3.ext OL4.2) (g := (mkF m 12 #[.val (.int p1), .val (.int p2), .val (.int p3), .val (.int p4), .val (.int p5), .unset, .unset, .unset, .unset, .unset, .unset, .unset, .unset, .unset, .unset, .unset] [(.int (1 : Int32)), (.ref b1), (.ref b1)])) rfl (hb hby at_12)
  obtain ⟨cl6, Ar6, q6, S6, M6, Hs6, G6⟩ := id V4
  have hin6 : ¬ ((1 : Int32) < 0 ∨ cl6.slots.size ≤ ((1 : Int32)).toNatClampNeg) := inb_of S6 ⟨by decide, by decide⟩
  obtain ⟨T7, h7, X7, e7, W7, st7⟩ := stR X5 hx hZ e5 Ar6 (j := (1 : Int32)) hin6 rfl (Sto.ofV Ar6 q6 O1 (Ins.self (pr4.ext OL4.2))) (g := (mkF m 15 #[.val (.int p1), .val (.int p2), .val (.int p3), .val (.int p4), .val (.int p5), .unset, .unset, .unset, .unset, .unset, .unset, .unset, .unset, .unset, .unset, .unset] [(.ref w_WEEK), (.int (1 : Int32)), (.ref b1), (.ref b1)])) rfl rfl (hb hby at_15)
  have V7 : Arv Z h7 b1 k1 (.object "com/example/larch/larch/model/IntervalUnit") (4 : Int32) [(.ref w_DAY), (.ref w_WEEK), .null, .null] .null := Arv.set Ar6 q6 S6 M6 Hs6 G6 rfl W7 1 rfl (Nat.le_of_ble_eq_true rfl)
  have KK7 : Keep h0 h7 [] := KK4.wr W7 (Or.inr sz_b1)
  have OL7 := OL4.wr W7 g_b1
  have N7 := Fr.snoc X7 N4 g_b1
  obtain ⟨T8, X8, e8, st8⟩ := getS2 X7 hx hZ hown (host := "") (Or.inl (wd8 hw)) Via.refl e7 (pr5.ext OL7.2) (g := (mkF m 18 #[.val (.int p1), .val (.int p2), .val (.int p3), .val (.int p4), .val (.int p5), .unset, .unset, .unset, .unset, .unset, .unset, .unset, .unset, .unset, .unset, .unset] [(.int (2 : Int32)), (.ref b1), (.ref b1)])) rfl (hb hby at_18)
  obtain ⟨cl9, Ar9, q9, S9, M9, Hs9, G9⟩ := id V7
  have hin9 : ¬ ((2 : Int32) < 0 ∨ cl9.slots.size ≤ ((2 : Int32)).toNatClampNeg) := inb_of S9 ⟨by decide, by decide⟩
  obtain ⟨T10, h10, X10, e10, W10, st10⟩ := stR X8 hx hZ e8 Ar9 (j := (2 : Int32)) hin9 rfl (Sto.ofV Ar9 q9 O1 (Ins.self (pr6.ext OL7.2))) (g := (mkF m 21 #[.val (.int p1), .val (.int p2), .val (.int p3), .val (.int p4), .val (.int p5), .unset, .unset, .unset, .unset, .unset, .unset, .unset, .unset, .unset, .unset, .unset] [(.ref w_MONTH), (.int (2 : Int32)), (.ref b1), (.ref b1)])) rfl rfl (hb hby at_21)
  have V10 : Arv Z h10 b1 k1 (.object "com/example/larch/larch/model/IntervalUnit") (4 : Int32) [(.ref w_DAY), (.ref w_WEEK), (.ref w_MONTH), .null] .null := Arv.set Ar9 q9 S9 M9 Hs9 G9 rfl W10 2 rfl (Nat.le_of_ble_eq_true rfl)
  have KK10 : Keep h0 h10 [] := KK7.wr W10 (Or.inr sz_b1)
  have OL10 := OL7.wr W10 g_b1
  have N10 := Fr.snoc X10 N7 g_b1
  obtain ⟨T11, X11, e11, st11⟩ := getS2 X10 hx hZ hown (host := "") (Or.inl (wd10 hw)) Via.refl e10 (pr7.ext OL10.2) (g := (mkF m 24 #[.val (.int p1), .val (.int p2), .val (.int p3), .val (.int p4), .val (.int p5), .unset, .unset, .unset, .unset, .unset, .unset, .unset, .unset, .unset, .unset, .unset] [(.int (3 : Int32)), (.ref b1), (.ref b1)])) rfl (hb hby at_24)
  obtain ⟨cl12, Ar12, q12, S12, M12, Hs12, G12⟩ := id V10
  have hin12 : ¬ ((3 : Int32) < 0 ∨ cl12.slots.size ≤ ((3 : Int32)).toNatClampNeg) := inb_of S12 ⟨by decide, by decide⟩
  obtain ⟨T13, h13, X13, e13, W13, st13⟩ := stR X11 hx hZ e11 Ar12 (j := (3 : Int32)) hin12 rfl (Sto.ofV Ar12 q12 O1 (Ins.self (pr8.ext OL10.2))) (g := (mkF m 27 #[.val (.int p1), .val (.int p2), .val (.int p3), .val (.int p4), .val (.int p5), .unset, .unset, .unset, .unset, .unset, .unset, .unset, .unset, .unset, .unset, .unset] [(.ref w_YEAR), (.int (3 : Int32)), (.ref b1), (.ref b1)])) rfl rfl (hb hby at_27)
  have V13 : Arv Z h13 b1 k1 (.object "com/example/larch/larch/model/IntervalUnit") (4 : Int32) [(.ref w_DAY), (.ref w_WEEK), (.ref w_MONTH), (.ref w_YEAR)] .null := Arv.set Ar12 q12 S12 M12 Hs12 G12 rfl W13 3 rfl (Nat.le_of_ble_eq_true rfl)
  have KK13 : Keep h0 h13 [] := KK10.wr W13 (Or.inr sz_b1)
  have OL13 := OL10.wr W13 g_b1
  have N13 := Fr.snoc X13 N10 g_b1
  have pre14 : ∀ t, Steps p.tables e below (T13.setTop (mkF m 40 #[.val (.int p1), .val (.int p2), .val (.int p3), .val (.int p4), .val (.int p5), .val (.ref b1), .val (.int y1), .unset, .unset, .unset, .unset, .unset, .unset, .unset, .unset, .unset] [(.int y2)])) t → Steps p.tables e below (s₁.setTop (entryFrame m #[(.int p1), (.int p2), (.int p3), (.int p4), (.int p5)] maxLocals)) t := by
    intro t kt
    refine pre0 _ ?_
    show Steps p.tables e below (s₁.setTop (mkF m 0 #[.val (.int p1), .val (.int p2), .val (.int p3), .val (.int p4), .val (.int p5), .unset, .unset, .unset, .unset, .unset, .unset, .unset, .unset, .unset, .unset, .unset] [])) _
    refine XS.iconst X0.here hx rfl (hb hby at_0) ?_
    show Steps p.tables e below (s₁.setTop (mkF m 1 #[.val (.int p1), .val (.int p2), .val (.int p3), .val (.int p4), .val (.int p5), .unset, .unset, .unset, .unset, .unset, .unset, .unset, .unset, .unset, .unset, .unset] [(.int (4 : Int32))])) _
    refine st1 _ ?_
    show Steps p.tables e below (T1.setTop (mkF m 4 #[.val (.int p1), .val (.int p2), .val (.int p3), .val (.int p4), .val (.int p5), .unset, .unset, .unset, .unset, .unset, .unset, .unset, .unset, .unset, .unset, .unset] [(.ref b1)])) _
    refine XS.dup X1.here hx rfl (hb hby at_4) rfl rfl ?_
    refine XS.iconst X1.here hx rfl (hb hby at_5) ?_
    show Steps p.tables e below (T1.setTop (mkF m 6 #[.val (.int p1), .val (.int p2), .val (.int p3), .val (.int p4), .val (.int p5), .unset, .unset, .unset, .unset, .unset, .unset, .unset, .unset, .unset, .unset, .unset] [(.int (0 : Int32)), (.ref b1), (.ref b1)])) _
    refine st2 _ ?_
    show Steps p.tables e below (T2.setTop (mkF m 9 #[.val (.int p1), .val (.int p2), .val (.int p3), .val (.int p4), .val (.int p5), .unset, .unset, .unset, .unset, .unset, .unset, .unset, .unset, .unset, .unset, .unset] [(.ref w_DAY), (.int (0 : Int32)), (.ref b1), (.ref b1)])) _
    refine st4 _ ?_
    show Steps p.tables e below (T4.setTop (mkF m 10 #[.val (.int p1), .val (.int p2), .val (.int p3), .val (.int p4), .val (.int p5), .unset, .unset, .unset, .unset, .unset, .unset, .unset, .unset, .unset, .unset, .unset] [(.ref b1)])) _
    refine XS.dup X4.here hx rfl (hb hby at_10) rfl rfl ?_
    refine XS.iconst X4.here hx rfl (hb hby at_11) ?_
    show Steps p.tables e below (T4.setTop (mkF m 12 #[.val (.int p1), .val (.int p2), .val (.int p3), .val (.int p4), .val (.int p5), .unset, .unset, .unset, .unset, .unset, .unset, .unset, .unset, .unset, .unset, .unset] [(.int (1 : Int32)), (.ref b1), (.ref b1)])) _
    refine st5 _ ?_
    show Steps p.tables e below (T5.setTop (mkF m 15 #[.val (.int p1), .val (.int p2), .val (.int p3), .val (.int p4), .val (.int p5), .unset, .unset, .unset, .unset, .unset, .unset, .unset, .unset, .unset, .unset, .unset] [(.ref w_WEEK), (.int (1 : Int32)), (.ref b1), (.ref b1)])) _
    refine st7 _ ?_
    show Steps p.tables e below (T7.setTop (mkF m 16 #[.val (.int p1), .val (.int p2), .val (.int p3), .val (.int p4), .val (.int p5), .unset, .unset, .unset, .unset, .unset, .unset, .unset, .unset, .unset, .unset, .unset] [(.ref b1)])) _
    refine XS.dup X7.here hx rfl (hb hby at_16) rfl rfl ?_
    refine XS.iconst X7.here hx rfl (hb hby at_17) ?_
    show Steps p.tables e below (T7.setTop (mkF m 18 #[.val (.int p1), .val (.int p2), .val (.int p3), .val (.int p4), .val (.int p5), .unset, .unset, .unset, .unset, .unset, .unset, .unset, .unset, .unset, .unset, .unset] [(.int (2 : Int32)), (.ref b1), (.ref b1)])) _
    refine st8 _ ?_
    show Steps p.tables e below (T8.setTop (mkF m 21 #[.val (.int p1), .val (.int p2), .val (.int p3), .val (.int p4), .val (.int p5), .unset, .unset, .unset, .unset, .unset, .unset, .unset, .unset, .unset, .unset, .unset] [(.ref w_MONTH), (.int (2 : Int32)), (.ref b1), (.ref b1)])) _
    refine st10 _ ?_
    show Steps p.tables e below (T10.setTop (mkF m 22 #[.val (.int p1), .val (.int p2), .val (.int p3), .val (.int p4), .val (.int p5), .unset, .unset, .unset, .unset, .unset, .unset, .unset, .unset, .unset, .unset, .unset] [(.ref b1)])) _
    refine XS.dup X10.here hx rfl (hb hby at_22) rfl rfl ?_
    refine XS.iconst X10.here hx rfl (hb hby at_23) ?_
    show Steps p.tables e below (T10.setTop (mkF m 24 #[.val (.int p1), .val (.int p2), .val (.int p3), .val (.int p4), .val (.int p5), .unset, .unset, .unset, .unset, .unset, .unset, .unset, .unset, .unset, .unset, .unset] [(.int (3 : Int32)), (.ref b1), (.ref b1)])) _
    refine st11 _ ?_
    show Steps p.tables e below (T11.setTop (mkF m 27 #[.val (.int p1), .val (.int p2), .val (.int p3), .val (.int p4), .val (.int p5), .unset, .unset, .unset, .unset, .unset, .unset, .unset, .unset, .unset, .unset, .unset] [(.ref w_YEAR), (.int (3 : Int32)), (.ref b1), (.ref b1)])) _
    refine st13 _ ?_
    show Steps p.tables e below (T13.setTop (mkF m 28 #[.val (.int p1), .val (.int p2), .val (.int p3), .val (.int p4), .val (.int p5), .unset, .unset, .unset, .unset, .unset, .unset, .unset, .unset, .unset, .unset, .unset] [(.ref b1)])) _
    refine XS.astore X13.here hx rfl (hb hby at_28) rfl rfl (l' := #[.val (.int p1), .val (.int p2), .val (.int p3), .val (.int p4), .val (.int p5), .val (.ref b1), .unset, .unset, .unset, .unset, .unset, .unset, .unset, .unset, .unset, .unset]) rfl ?_
    refine XS.iloadN X13.here hx rfl (hb hby at_30) rfl ?_
    refine XS.iconst X13.here hx rfl (hb hby at_31) ?_
    show Steps p.tables e below (T13.setTop (mkF m 32 #[.val (.int p1), .val (.int p2), .val (.int p3), .val (.int p4), .val (.int p5), .val (.ref b1), .unset, .unset, .unset, .unset, .unset, .unset, .unset, .unset, .unset, .unset] [(.int (3 : Int32)), (.int p1)])) _
    refine XS.iand X13.here hx rfl (hb hby at_32) rfl ?_
    show Steps p.tables e below (T13.setTop (mkF m 33 #[.val (.int p1), .val (.int p2), .val (.int p3), .val (.int p4), .val (.int p5), .val (.ref b1), .unset, .unset, .unset, .unset, .unset, .unset, .unset, .unset, .unset, .unset] [(.int (p1 &&& (3 : Int32)))])) _
    rw [pr9]
    show Steps p.tables e below (T13.setTop (mkF m 33 #[.val (.int p1), .val (.int p2), .val (.int p3), .val (.int p4), .val (.int p5), .val (.ref b1), .unset, .unset, .unset, .unset, .unset, .unset, .unset, .unset, .unset, .unset] [(.int y1)])) _
    refine XS.istore X13.here hx rfl (hb hby at_33) rfl (l' := #[.val (.int p1), .val (.int p2), .val (.int p3), .val (.int p4), .val (.int p5), .val (.ref b1), .val (.int y1), .unset, .unset, .unset, .unset, .unset, .unset, .unset, .unset, .unset]) rfl ?_
    refine XS.iload X13.here hx rfl (hb hby at_35) rfl ?_
    refine XS.bipush X13.here hx rfl (hb hby at_37) ?_
    show Steps p.tables e below (T13.setTop (mkF m 39 #[.val (.int p1), .val (.int p2), .val (.int p3), .val (.int p4), .val (.int p5), .val (.ref b1), .val (.int y1), .unset, .unset, .unset, .unset, .unset, .unset, .unset, .unset, .unset] [(.int (8 : Int32)), (.int p5)])) _
    refine XS.iand X13.here hx rfl (hb hby at_39) rfl ?_
    show Steps p.tables e below (T13.setTop (mkF m 40 #[.val (.int p1), .val (.int p2), .val (.int p3), .val (.int p4), .val (.int p5), .val (.ref b1), .val (.int y1), .unset, .unset, .unset, .unset, .unset, .unset, .unset, .unset, .unset] [(.int (p5 &&& (8 : Int32)))])) _
    rw [pr10]
    exact kt
  by_cases hf14 : y2 = (0 : Int32)
  · obtain ⟨_, _, ⟨T15, L15, k15, n15⟩, -, X15, ⟨Lc15, hQ15, l15, y15, z15⟩, st15⟩ := Jvm.LawKit.callS X13 hx (y := (⟨"java/lang/Math", "max", "(II)I"⟩ : MethodName)) hown (mvT hZ (wd13 hw)) (mvT hZ (wd14 hw)) (mvT hZ (wd15 hw)) (mvT hZ (wd16 hw)) (by decide) (backOf (W := 0) (mg_own_imax l Z a0 hw [] (1 : Int32) y4 h13 n0 OL13 ) hZ (wd16 hw) (wd15 hw) (by decide) (by decide)) (g := (mkF m 58 #[.val (.int p1), .val (.int p2), .val (.int p3), .val (.int p4), .val (.int p5), .val (.ref b1), .val (.int y1), .val (.int y3), .unset, .unset, .unset, .unset, .unset, .unset, .unset, .unset] [(.int y4), (.int (1 : Int32))])) rfl (by rw [hml]; rfl) (argsL := [(.int (1 : Int32)), (.int y4)]) (rest := []) (lenOf pd_0 rfl) rfl (by show 2 * 0 + _ ≤ _; exact Nat.le_of_eq rfl) (hb hby at_58) (fun _ _ => ⟨rfl, e13, (by decide : 1 + 0 ≤ _), (by decide : 4 + 0 ≤ _)⟩)
    dsimp only [Pt.U, Pt.locs, Pt.cells, Pt.slots] at X15 l15 y15 z15 st15 hQ15
    subst l15 y15 z15
    obtain ⟨rfl, Nq15, ec15⟩ := hQ15
    have N15 := Fr.app N13 Nq15
    have pre16 : ∀ t, Steps p.tables e below (T15.setTop (mkF m 67 #[.val (.int p1), .val (.int p2), .val (.int p3), .val (.int p4), .val (.int p5), .val (.ref b1), .val (.int y1), .val (.int y3), .val (.int y5), .unset, .unset, .unset, .unset, .unset, .unset, .unset] [(.int y6)])) t → Steps p.tables e below (s₁.setTop (entryFrame m #[(.int p1), (.int p2), (.int p3), (.int p4), (.int p5)] maxLocals)) t := by
      intro t kt
      refine pre14 _ ?_
      show Steps p.tables e below (T13.setTop (mkF m 40 #[.val (.int p1), .val (.int p2), .val (.int p3), .val (.int p4), .val (.int p5), .val (.ref b1), .val (.int y1), .unset, .unset, .unset, .unset, .unset, .unset, .unset, .unset, .unset] [(.int y2)])) _
      refine XS.ifYes X13.here hx rfl (pc0 := 40) (pc' := 48) rfl (hb hby at_40) rfl ((if0 _ _).trans (teq hf14).1) (by decide) (by decide) ?_
      show Steps p.tables e below (T13.setTop (mkF m 48 #[.val (.int p1), .val (.int p2), .val (.int p3), .val (.int p4), .val (.int p5), .val (.ref b1), .val (.int y1), .unset, .unset, .unset, .unset, .unset, .unset, .unset, .unset, .unset] [])) _
      refine XS.iloadN X13.here hx rfl (hb hby at_48) rfl ?_
      refine XS.iconst X13.here hx rfl (hb hby at_49) ?_
      show Steps p.tables e below (T13.setTop (mkF m 50 #[.val (.int p1), .val (.int p2), .val (.int p3), .val (.int p4), .val (.int p5), .val (.ref b1), .val (.int y1), .unset, .unset, .unset, .unset, .unset, .unset, .unset, .unset, .unset] [(.int (3 : Int32)), (.int p3)])) _
      refine XS.iand X13.here hx rfl (hb hby at_50) rfl ?_
      show Steps p.tables e below (T13.setTop (mkF m 51 #[.val (.int p1), .val (.int p2), .val (.int p3), .val (.int p4), .val (.int p5), .val (.ref b1), .val (.int y1), .unset, .unset, .unset, .unset, .unset, .unset, .unset, .unset, .unset] [(.int (p3 &&& (3 : Int32)))])) _
      rw [pr11]
      show Steps p.tables e below (T13.setTop (mkF m 51 #[.val (.int p1), .val (.int p2), .val (.int p3), .val (.int p4), .val (.int p5), .val (.ref b1), .val (.int y1), .unset, .unset, .unset, .unset, .unset, .unset, .unset, .unset, .unset] [(.int y3)])) _
      refine XS.istore X13.here hx rfl (hb hby at_51) rfl (l' := #[.val (.int p1), .val (.int p2), .val (.int p3), .val (.int p4), .val (.int p5), .val (.ref b1), .val (.int y1), .val (.int y3), .unset, .unset, .unset, .unset, .unset, .unset, .unset, .unset]) rfl ?_
      refine XS.iconst X13.here hx rfl (hb hby at_53) ?_
      refine XS.iloadN X13.here hx rfl (hb hby at_54) rfl ?_
      refine X13.ldcInt hx hown (mvT hZ (wd12 hw)) (g := (mkF m 55 #[.val (.int p1), .val (.int p2), .val (.int p3), .val (.int p4), .val (.int p5), .val (.ref b1), .val (.int y1), .val (.int y3), .unset, .unset, .unset, .unset, .unset, .unset, .unset, .unset] [(.int p2), (.int (1 : Int32))])) rfl (hb hby at_55) _ ?_
      show Steps p.tables e below (T13.setTop (mkF m 57 #[.val (.int p1), .val (.int p2), .val (.int p3), .val (.int p4), .val (.int p5), .val (.ref b1), .val (.int y1), .val (.int y3), .unset, .unset, .unset, .unset, .unset, .unset, .unset, .unset] [(.int (2147483647 : Int32)), (.int p2), (.int (1 : Int32))])) _
      refine XS.iand X13.here hx rfl (hb hby at_57) rfl ?_
      show Steps p.tables e below (T13.setTop (mkF m 58 #[.val (.int p1), .val (.int p2), .val (.int p3), .val (.int p4), .val (.int p5), .val (.ref b1), .val (.int y1), .val (.int y3), .unset, .unset, .unset, .unset, .unset, .unset, .unset, .unset] [(.int (p2 &&& (2147483647 : Int32))), (.int (1 : Int32))])) _
      rw [pr12]
      show Steps p.tables e below (T13.setTop (mkF m 58 #[.val (.int p1), .val (.int p2), .val (.int p3), .val (.int p4), .val (.int p5), .val (.ref b1), .val (.int y1), .val (.int y3), .unset, .unset, .unset, .unset, .unset, .unset, .unset, .unset] [(.int y4), (.int (1 : Int32))])) _
      refine st15 _ ?_
      show Steps p.tables e below (T15.setTop (mkF m 61 #[.val (.int p1), .val (.int p2), .val (.int p3), .val (.int p4), .val (.int p5), .val (.ref b1), .val (.int y1), .val (.int y3), .unset, .unset, .unset, .unset, .unset, .unset, .unset, .unset] [(.int (own_imax (1 : Int32) y4))])) _
      rw [pr13]
      show Steps p.tables e below (T15.setTop (mkF m 61 #[.val (.int p1), .val (.int p2), .val (.int p3), .val (.int p4), .val (.int p5), .val (.ref b1), .val (.int y1), .val (.int y3), .unset, .unset, .unset, .unset, .unset, .unset, .unset, .unset] [(.int y5)])) _
      refine XS.istore X15.here hx rfl (hb hby at_61) rfl (l' := #[.val (.int p1), .val (.int p2), .val (.int p3), .val (.int p4), .val (.int p5), .val (.ref b1), .val (.int y1), .val (.int y3), .val (.int y5), .unset, .unset, .unset, .unset, .unset, .unset, .unset]) rfl ?_
      refine XS.iload X15.here hx rfl (hb hby at_63) rfl ?_
      refine XS.iconst X15.here hx rfl (hb hby at_65) ?_
      show Steps p.tables e below (T15.setTop (mkF m 66 #[.val (.int p1), .val (.int p2), .val (.int p3), .val (.int p4), .val (.int p5), .val (.ref b1), .val (.int y1), .val (.int y3), .val (.int y5), .unset, .unset, .unset, .unset, .unset, .unset, .unset] [(.int (1 : Int32)), (.int p5)])) _
      refine XS.iand X15.here hx rfl (hb hby at_66) rfl ?_
      show Steps p.tables e below (T15.setTop (mkF m 67 #[.val (.int p1), .val (.int p2), .val (.int p3), .val (.int p4), .val (.int p5), .val (.ref b1), .val (.int y1), .val (.int y3), .val (.int y5), .unset, .unset, .unset, .unset, .unset, .unset, .unset] [(.int (p5 &&& (1 : Int32)))])) _
      rw [pr14]
      exact kt
    by_cases hf16 : y6 = (0 : Int32)
    · obtain ⟨_, _, ⟨T17, L17, k17, n17⟩, -, X17, ⟨Lc17, hQ17, l17, y17, z17⟩, st17⟩ := Jvm.LawKit.callS X15 hx (y := (⟨"java/lang/Math", "max", "(II)I"⟩ : MethodName)) hown (mvT hZ (wd13 hw)) (mvT hZ (wd14 hw)) (mvT hZ (wd15 hw)) (mvT hZ (wd16 hw)) (by decide) (backOf (W := 0) (mg_own_imax l Z a0 hw [] (1 : Int32) y7 h13 n0 OL13 ) hZ (wd16 hw) (wd15 hw) (by decide) (by decide)) (g := (mkF m 80 #[.val (.int p1), .val (.int p2), .val (.int p3), .val (.int p4), .val (.int p5), .val (.ref b1), .val (.int y1), .val (.int y3), .val (.int y5), .unset, .unset, .unset, .unset, .unset, .unset, .unset] [(.int y7), (.int (1 : Int32))])) rfl (by rw [hml]; rfl) (argsL := [(.int (1 : Int32)), (.int y7)]) (rest := []) (lenOf pd_0 rfl) rfl (by show 2 * 0 + _ ≤ _; exact Nat.le_of_eq rfl) (hb hby at_80) (fun _ _ => ⟨rfl, ec15, (by decide : 1 + 0 ≤ _), (by decide : 4 + 0 ≤ _)⟩)
      dsimp only [Pt.U, Pt.locs, Pt.cells, Pt.slots] at X17 l17 y17 z17 st17 hQ17
      subst l17 y17 z17
      obtain ⟨rfl, Nq17, ec17⟩ := hQ17
      have N17 := Fr.app N15 Nq17
      obtain ⟨T18, h18, X18, e18, E18, A18, D18, -, st18⟩ := newO X17 hx hZ hown (wd17 hw) (wd18 hw) (wd19 hw) ec17 (g := (mkF m 85 #[.val (.int p1), .val (.int p2), .val (.int p3), .val (.int p4), .val (.int p5), .val (.ref b1), .val (.int y1), .val (.int y3), .val (.int y5), .val (.int y8), .unset, .unset, .unset, .unset, .unset, .unset] [])) rfl (hb hby at_85) (by decide) (by decide)
      obtain ⟨b18, g18⟩ : ∃ z, z = h13.size := ⟨_, rfl⟩
      rw [← g18] at A18 D18 st18
      have g_b18 : n0 ≤ b18 := (Nat.le_trans (Nat.le_trans (Nat.le_of_eq OL13.1.symm) OL13.2.1) (Nat.le_of_eq g18.symm))
      have sz_b18 : h0.size ≤ b18 := (Nat.le_trans KK13.1 (Nat.le_of_eq g18.symm))
      have KK18 : Keep h0 h18 [] := KK13.ext E18
      have OL18 := OL13.ext E18
      have F_unit_b18 : Fld Z h18 b18 "com/example/larch/larch/model/Interval" "unit" "Lcom/example/larch/larch/model/IntervalUnit;" .null := D18 (Or.inr (wd39 hw)) (ty := (.object "com/example/larch/larch/model/IntervalUnit")) (by decide)
      have F_length_b18 : Fld Z h18 b18 "com/example/larch/larch/model/Interval" "length" "I" (.int (0 : Int32)) := D18 (Or.inr (wd41 hw)) (ty := .int) (by decide)
      have fc19 := (V13.ext E18)
      obtain ⟨cl20, Ar20, -, S20, -, Hs20, -⟩ := id fc19
      have hin20 : ¬ (y1 < 0 ∨ cl20.slots.size ≤ (y1).toNatClampNeg) := inb_of S20 ⟨pr17, pr18⟩
      have hat20 : cl20.slots[(y1).toNatClampNeg]? = some (.ref v1) := Hs20.at hin20 pr19
      obtain ⟨_, _, ⟨T21, L21, k21, n21⟩, -, Xa21, hSi21, hgr21, ⟨Lc21, hQ21, l21, y21, z21⟩, st21⟩ := X18.specialBackS hx (y := (⟨"com/example/larch/larch/model/Interval", "<init>", "(Lcom/example/larch/larch/model/IntervalUnit;I)V"⟩ : MethodName)) rfl hown (mvT hZ (wd20 hw)) (mvT hZ (wd21 hw)) (mvT hZ (wd22 hw)) (by decide) (backOfS (W := 1) (rm2_0 l Z a0 hw [] b18 v1 y5 h18 n0 OL18 pr20 A18 F_unit_b18 g_b18 F_length_b18) hZ (wd22 hw) (wd19 hw) (by decide) (by decide)) (g := (mkF m 96 #[.val (.int p1), .val (.int p2), .val (.int p3), .val (.int p4), .val (.int p5), .val (.ref b1), .val (.int y1), .val (.int y3), .val (.int y5), .val (.int y8), .unset, .unset, .unset, .unset, .unset, .unset] [(.int y5), (.ref v1), (.ref b18), (.ref b18)])) rfl (by rw [hml]; rfl) (Steps.refl _) (a := b18) (argsL := [(.ref v1), (.int y5)]) (rest := [(.ref b18)]) (lenOf pd_2 rfl) rfl (by show 2 * 0 + _ ≤ _; exact Nat.le_of_eq rfl) (hb hby at_96) (fun _ _ => ⟨rfl, e18, (by decide : 2 + 2 ≤ _), (by decide : 6 + 20 ≤ _)⟩)
      dsimp only [Pt.U, Pt.locs, Pt.cells, Pt.slots] at Xa21 l21 y21 z21 st21 hQ21 hSi21 hgr21
      subst l21 y21 z21
      obtain ⟨X21, hS21, hZ21, hown21⟩ := rebS (s := s) (vm0 := s.vm) ((State.WarmedH.refl s).since 0) (n1 := T18.heap.size) (by rw [e18]; exact (Nat.le_trans (Nat.le_trans (Nat.le_trans (Nat.le_trans (Nat.le_trans (Nat.le_trans (Nat.zero_le _) E1.1) (Nat.le_of_eq W4.size.symm)) (Nat.le_of_eq W7.size.symm)) (Nat.le_of_eq W10.size.symm)) (Nat.le_of_eq W13.size.symm)) E18.1)) Xa21 hSi21 hgr21 hZ hown
      obtain ⟨rfl, Nq21, K21, u21_0, u21_1⟩ := hQ21
      have KK21 : Keep h0 T21.heap [] := KK18.trans K21 (allS (Or.inr sz_b18) all0)
      have OL21 := OL18.keep K21 (allS g_b18 all0)
      have N21 := Fr.app N17 Nq21
      obtain ⟨T22, h22, X22, e22, E22, A22, D22, -, st22⟩ := newO X21 hx hZ21 hown21 (wd17 hw) (wd18 hw) (wd19 hw) rfl (g := (mkF m 101 #[.val (.int p1), .val (.int p2), .val (.int p3), .val (.int p4), .val (.int p5), .val (.ref b1), .val (.int y1), .val (.int y3), .val (.int y5), .val (.int y8), .val (.ref b18), .unset, .unset, .unset, .unset, .unset] [])) rfl (hb hby at_101) (by decide) (by decide)
      obtain ⟨b22, g22⟩ : ∃ z, z = T21.heap.size := ⟨_, rfl⟩
      rw [← g22] at A22 D22 st22
      have g_b22 : n0 ≤ b22 := (Nat.le_trans (Nat.le_trans (Nat.le_of_eq OL21.1.symm) OL21.2.1) (Nat.le_of_eq g22.symm))
      have sz_b22 : h0.size ≤ b22 := (Nat.le_trans KK21.1 (Nat.le_of_eq g22.symm))
      have KK22 : Keep h0 h22 [] := KK21.ext E22
      have OL22 := OL21.ext E22
      have F_unit_b22 : Fld Z h22 b22 "com/example/larch/larch/model/Interval" "unit" "Lcom/example/larch/larch/model/IntervalUnit;" .null := D22 (Or.inr (wd39 hw)) (ty := (.object "com/example/larch/larch/model/IntervalUnit")) (by decide)
      have F_length_b22 : Fld Z h22 b22 "com/example/larch/larch/model/Interval" "length" "I" (.int (0 : Int32)) := D22 (Or.inr (wd41 hw)) (ty := .int) (by decide)
      have pre25 : ∀ t, Steps p.tables e below (T22.setTop (mkF m 109 #[.val (.int p1), .val (.int p2), .val (.int p3), .val (.int p4), .val (.int p5), .val (.ref b1), .val (.int y1), .val (.int y3), .val (.int y5), .val (.int y8), .val (.ref b18), .unset, .unset, .unset, .unset, .unset] [(.int y3), (.ref b1), (.ref b22), (.ref b22)])) t → Steps p.tables e below (s₁.setTop (entryFrame m #[(.int p1), (.int p2), (.int p3), (.int p4), (.int p5)] maxLocals)) t := by
        intro t kt
        refine pre16 _ ?_
        show Steps p.tables e below (T15.setTop (mkF m 67 #[.val (.int p1), .val (.int p2), .val (.int p3), .val (.int p4), .val (.int p5), .val (.ref b1), .val (.int y1), .val (.int y3), .val (.int y5), .unset, .unset, .unset, .unset, .unset, .unset, .unset] [(.int y6)])) _
        refine XS.ifYes X15.here hx rfl (pc0 := 67) (pc' := 75) rfl (hb hby at_67) rfl ((if0 _ _).trans (teq hf16).1) (by decide) (by decide) ?_
        show Steps p.tables e below (T15.setTop (mkF m 75 #[.val (.int p1), .val (.int p2), .val (.int p3), .val (.int p4), .val (.int p5), .val (.ref b1), .val (.int y1), .val (.int y3), .val (.int y5), .unset, .unset, .unset, .unset, .unset, .unset, .unset] [])) _
        refine XS.iconst X15.here hx rfl (hb hby at_75) ?_
        refine XS.iloadN X15.here hx rfl (hb hby at_76) rfl ?_
        refine X15.ldcInt hx hown (mvT hZ (wd12 hw)) (g := (mkF m 77 #[.val (.int p1), .val (.int p2), .val (.int p3), .val (.int p4), .val (.int p5), .val (.ref b1), .val (.int y1), .val (.int y3), .val (.int y5), .unset, .unset, .unset, .unset, .unset, .unset, .unset] [(.int p4), (.int (1 : Int32))])) rfl (hb hby at_77) _ ?_
        show Steps p.tables e below (T15.setTop (mkF m 79 #[.val (.int p1), .val (.int p2), .val (.int p3), .val (.int p4), .val (.int p5), .val (.ref b1), .val (.int y1), .val (.int y3), .val (.int y5), .unset, .unset, .unset, .unset, .unset, .unset, .unset] [(.int (2147483647 : Int32)), (.int p4), (.int (1 : Int32))])) _
        refine XS.iand X15.here hx rfl (hb hby at_79) rfl ?_
        show Steps p.tables e below (T15.setTop (mkF m 80 #[.val (.int p1), .val (.int p2), .val (.int p3), .val (.int p4), .val (.int p5), .val (.ref b1), .val (.int y1), .val (.int y3), .val (.int y5), .unset, .unset, .unset, .unset, .unset, .unset, .unset] [(.int (p4 &&& (2147483647 : Int32))), (.int (1 : Int32))])) _
        rw [pr15]
        show Steps p.tables e below (T15.setTop (mkF m 80 #[.val (.int p1), .val (.int p2), .val (.int p3), .val (.int p4), .val (.int p5), .val (.ref b1), .val (.int y1), .val (.int y3), .val (.int y5), .unset, .unset, .unset, .unset, .unset, .unset, .unset] [(.int y7), (.int (1 : Int32))])) _
        refine st17 _ ?_
        show Steps p.tables e below (T17.setTop (mkF m 83 #[.val (.int p1), .val (.int p2), .val (.int p3), .val (.int p4), .val (.int p5), .val (.ref b1), .val (.int y1), .val (.int y3), .val (.int y5), .unset, .unset, .unset, .unset, .unset, .unset, .unset] [(.int (own_imax (1 : Int32) y7))])) _
        rw [pr16]
        show Steps p.tables e below (T17.setTop (mkF m 83 #[.val (.int p1), .val (.int p2), .val (.int p3), .val (.int p4), .val (.int p5), .val (.ref b1), .val (.int y1), .val (.int y3), .val (.int y5), .unset, .unset, .unset, .unset, .unset, .unset, .unset] [(.int y8)])) _
        refine XS.istore X17.here hx rfl (hb hby at_83) rfl (l' := #[.val (.int p1), .val (.int p2), .val (.int p3), .val (.int p4), .val (.int p5), .val (.ref b1), .val (.int y1), .val (.int y3), .val (.int y5), .val (.int y8), .unset, .unset, .unset, .unset, .unset, .unset]) rfl ?_
        show Steps p.tables e below (T17.setTop (mkF m 85 #[.val (.int p1), .val (.int p2), .val (.int p3), .val (.int p4), .val (.int p5), .val (.ref b1), .val (.int y1), .val (.int y3), .val (.int y5), .val (.int y8), .unset, .unset, .unset, .unset, .unset, .unset] [])) _
        refine st18 _ ?_
        show Steps p.tables e below (T18.setTop (mkF m 88 #[.val (.int p1), .val (.int p2), .val (.int p3), .val (.int p4), .val (.int p5), .val (.ref b1), .val (.int y1), .val (.int y3), .val (.int y5), .val (.int y8), .unset, .unset, .unset, .unset, .unset, .unset] [(.ref b18)])) _
        refine XS.dup X18.here hx rfl (hb hby at_88) rfl rfl ?_
        refine XS.aload X18.here hx rfl (hb hby at_89) rfl rfl ?_
        refine XS.iload X18.here hx rfl (hb hby at_91) rfl ?_
        show Steps p.tables e below (T18.setTop (mkF m 93 #[.val (.int p1), .val (.int p2), .val (.int p3), .val (.int p4), .val (.int p5), .val (.ref b1), .val (.int y1), .val (.int y3), .val (.int y5), .val (.int y8), .unset, .unset, .unset, .unset, .unset, .unset] [(.int y1), (.ref b1), (.ref b18), (.ref b18)])) _
        refine X18.aaload hx (j := y1) (v := (.ref v1)) (by rw [e18]; exact Ar20.1) (State.isArrayOf_alike hZ.alike Ar20.2.1) rfl Ar20.2.2 hin20 hat20 (g := (mkF m 93 #[.val (.int p1), .val (.int p2), .val (.int p3), .val (.int p4), .val (.int p5), .val (.ref b1), .val (.int y1), .val (.int y3), .val (.int y5), .val (.int y8), .unset, .unset, .unset, .unset, .unset, .unset] [(.int y1), (.ref b1), (.ref b18), (.ref b18)])) rfl rfl (hb hby at_93) _ ?_
        show Steps p.tables e below (T18.setTop (mkF m 94 #[.val (.int p1), .val (.int p2), .val (.int p3), .val (.int p4), .val (.int p5), .val (.ref b1), .val (.int y1), .val (.int y3), .val (.int y5), .val (.int y8), .unset, .unset, .unset, .unset, .unset, .unset] [(.ref v1), (.ref b18), (.ref b18)])) _
        refine XS.iload X18.here hx rfl (hb hby at_94) rfl ?_
        show Steps p.tables e below (T18.setTop (mkF m 96 #[.val (.int p1), .val (.int p2), .val (.int p3), .val (.int p4), .val (.int p5), .val (.ref b1), .val (.int y1), .val (.int y3), .val (.int y5), .val (.int y8), .unset, .unset, .unset, .unset, .unset, .unset] [(.int y5), (.ref v1), (.ref b18), (.ref b18)])) _
        refine st21.trans ?_
        show Steps p.tables e below (T21.setTop (mkF m 99 #[.val (.int p1), .val (.int p2), .val (.int p3), .val (.int p4), .val (.int p5), .val (.ref b1), .val (.int y1), .val (.int y3), .val (.int y5), .val (.int y8), .unset, .unset, .unset, .unset, .unset, .unset] [(.ref b18)])) _
        refine XS.astore X21.here hx rfl (hb hby at_99) rfl rfl (l' := #[.val (.int p1), .val (.int p2), .val (.int p3), .val (.int p4), .val (.int p5), .val (.ref b1), .val (.int y1), .val (.int y3), .val (.int y5), .val (.int y8), .val (.ref b18), .unset, .unset, .unset, .unset, .unset]) rfl ?_
        show Steps p.tables e below (T21.setTop (mkF m 101 #[.val (.int p1), .val (.int p2), .val (.int p3), .val (.int p4), .val (.int p5), .val (.ref b1), .val (.int y1), .val (.int y3), .val (.int y5), .val (.int y8), .val (.ref b18), .unset, .unset, .unset, .unset, .unset] [])) _
        refine st22 _ ?_
        show Steps p.tables e below (T22.setTop (mkF m 104 #[.val (.int p1), .val (.int p2), .val (.int p3), .val (.int p4), .val (.int p5), .val (.ref b1), .val (.int y1), .val (.int y3), .val (.int y5), .val (.int y8), .val (.ref b18), .unset, .unset, .unset, .unset, .unset] [(.ref b22)])) _
        refine XS.dup X22.here hx rfl (hb hby at_104) rfl rfl ?_
        refine XS.aload X22.here hx rfl (hb hby at_105) rfl rfl ?_
        refine XS.iload X22.here hx rfl (hb hby at_107) rfl ?_
        exact kt
      by_cases hf25 : y1 = y3
      · have fc26 := ((fc19.keep K21 (ninS (Nat.ne_of_lt (Nat.lt_of_lt_of_le V13.lt (Nat.le_of_eq g18.symm))) nin0)).ext E22)
        obtain ⟨cl27, Ar27, -, S27, -, Hs27, -⟩ := id fc26
        have hin27 : ¬ (y3 < 0 ∨ cl27.slots.size ≤ (y3).toNatClampNeg) := inb_of S27 ⟨pr21, pr22⟩
        have hat27 : cl27.slots[(y3).toNatClampNeg]? = some (.ref v1) := Hs27.at hin27 (by rw [← hf25]; exact pr19)
        obtain ⟨_, _, ⟨T28, L28, k28, n28⟩, -, Xa28, hSi28, hgr28, ⟨Lc28, hQ28, l28, y28, z28⟩, st28⟩ := X22.specialBackS hx (y := (⟨"com/example/larch/larch/model/Interval", "<init>", "(Lcom/example/larch/larch/model/IntervalUnit;I)V"⟩ : MethodName)) rfl hown21 (mvT hZ21 (wd20 hw)) (mvT hZ21 (wd21 hw)) (mvT hZ21 (wd22 hw)) (by decide) (backOfS (W := 1) (rm2_0 l Z a0 hw [] b22 v1 y8 h22 n0 OL22 pr23 A22 F_unit_b22 g_b22 F_length_b22) hZ21 (wd22 hw) (wd19 hw) (by decide) (by decide)) (g := (mkF m 112 #[.val (.int p1), .val (.int p2), .val (.int p3), .val (.int p4), .val (.int p5), .val (.ref b1), .val (.int y1), .val (.int y3), .val (.int y5), .val (.int y8), .val (.ref b18), .unset, .unset, .unset, .unset, .unset] [(.int y8), (.ref v1), (.ref b22), (.ref b22)])) rfl (by rw [hml]; rfl) (Steps.refl _) (a := b22) (argsL := [(.ref v1), (.int y8)]) (rest := [(.ref b22)]) (lenOf pd_2 rfl) rfl (by show 2 * 0 + _ ≤ _; exact Nat.le_of_eq rfl) (hb hby at_112) (fun _ _ => ⟨rfl, e22, (by decide : 5 + 2 ≤ _), (by decide : 28 + 20 ≤ _)⟩)
        dsimp only [Pt.U, Pt.locs, Pt.cells, Pt.slots] at Xa28 l28 y28 z28 st28 hQ28 hSi28 hgr28
        subst l28 y28 z28
        obtain ⟨X28, hS28, hZ28, hown28⟩ := rebS (s := s) (vm0 := T21.vm) hS21 (n1 := T22.heap.size) (by rw [e22]; exact (Nat.le_trans (Nat.le_refl _) E22.1)) Xa28 hSi28 hgr28 hZ21 hown21
        obtain ⟨rfl, Nq28, K28, u28_0, u28_1⟩ := hQ28
        have KK28 : Keep h0 T28.heap [] := KK22.trans K28 (allS (Or.inr sz_b22) all0)
        have OL28 := OL22.keep K28 (allS g_b22 all0)
        have N28 := Fr.app N21 Nq28
        have pre29 : ∀ t, Steps p.tables e below (T28.setTop (mkF m 127 #[.val (.int p1), .val (.int p2), .val (.int p3), .val (.int p4), .val (.int p5), .val (.ref b1), .val (.int y1), .val (.int y3), .val (.int y5), .val (.int y8), .val (.ref b18), .val (.ref b22), .val (.int y10), .unset, .unset, .unset] [(.int y10)])) t → Steps p.tables e below (s₁.setTop (entryFrame m #[(.int p1), (.int p2), (.int p3), (.int p4), (.int p5)] maxLocals)) t := by
          intro t kt
          refine pre25 _ ?_
          show Steps p.tables e below (T22.setTop (mkF m 109 #[.val (.int p1), .val (.int p2), .val (.int p3), .val (.int p4), .val (.int p5), .val (.ref b1), .val (.int y1), .val (.int y3), .val (.int y5), .val (.int y8), .val (.ref b18), .unset, .unset, .unset, .unset, .unset] [(.int y3), (.ref b1), (.ref b22), (.ref b22)])) _
          refine X22.aaload hx (j := y3) (v := (.ref v1)) (by rw [e22]; exact Ar27.1) (State.isArrayOf_alike hZ21.alike Ar27.2.1) rfl Ar27.2.2 hin27 hat27 (g := (mkF m 109 #[.val (.int p1), .val (.int p2), .val (.int p3), .val (.int p4), .val (.int p5), .val (.ref b1), .val (.int y1), .val (.int y3), .val (.int y5), .val (.int y8), .val (.ref b18), .unset, .unset, .unset, .unset, .unset] [(.int y3), (.ref b1), (.ref b22), (.ref b22)])) rfl rfl (hb hby at_109) _ ?_
          show Steps p.tables e below (T22.setTop (mkF m 110 #[.val (.int p1), .val (.int p2), .val (.int p3), .val (.int p4), .val (.int p5), .val (.ref b1), .val (.int y1), .val (.int y3), .val (.int y5), .val (.int y8), .val (.ref b18), .unset, .unset, .unset, .unset, .unset] [(.ref v1), (.ref b22), (.ref b22)])) _
          refine XS.iload X22.here hx rfl (hb hby at_110) rfl ?_
          show Steps p.tables e below (T22.setTop (mkF m 112 #[.val (.int p1), .val (.int p2), .val (.int p3), .val (.int p4), .val (.int p5), .val (.ref b1), .val (.int y1), .val (.int y3), .val (.int y5), .val (.int y8), .val (.ref b18), .unset, .unset, .unset, .unset, .unset] [(.int y8), (.ref v1), (.ref b22), (.ref b22)])) _
          refine st28.trans ?_
          show Steps p.tables e below (T28.setTop (mkF m 115 #[.val (.int p1), .val (.int p2), .val (.int p3), .val (.int p4), .val (.int p5), .val (.ref b1), .val (.int y1), .val (.int y3), .val (.int y5), .val (.int y8), .val (.ref b18), .unset, .unset, .unset, .unset, .unset] [(.ref b22)])) _
          refine XS.astore X28.here hx rfl (hb hby at_115) rfl rfl (l' := #[.val (.int p1), .val (.int p2), .val (.int p3), .val (.int p4), .val (.int p5), .val (.ref b1), .val (.int y1), .val (.int y3), .val (.int y5), .val (.int y8), .val (.ref b18), .val (.ref b22), .unset, .unset, .unset, .unset]) rfl ?_
          refine XS.iload X28.here hx rfl (hb hby at_117) rfl ?_
          refine XS.iconst X28.here hx rfl (hb hby at_119) ?_
          show Steps p.tables e below (T28.setTop (mkF m 120 #[.val (.int p1), .val (.int p2), .val (.int p3), .val (.int p4), .val (.int p5), .val (.ref b1), .val (.int y1), .val (.int y3), .val (.int y5), .val (.int y8), .val (.ref b18), .val (.ref b22), .unset, .unset, .unset, .unset] [(.int (1 : Int32)), (.int p5)])) _
          refine XS.iushr X28.here hx rfl (hb hby at_120) rfl ?_
          show Steps p.tables e below (T28.setTop (mkF m 121 #[.val (.int p1), .val (.int p2), .val (.int p3), .val (.int p4), .val (.int p5), .val (.ref b1), .val (.int y1), .val (.int y3), .val (.int y5), .val (.int y8), .val (.ref b18), .val (.ref b22), .unset, .unset, .unset, .unset] [(.int ((p5.toUInt32 >>> ((1 : Int32) &&& 31).toUInt32).toInt32))])) _
          rw [pr24]
          show Steps p.tables e below (T28.setTop (mkF m 121 #[.val (.int p1), .val (.int p2), .val (.int p3), .val (.int p4), .val (.int p5), .val (.ref b1), .val (.int y1), .val (.int y3), .val (.int y5), .val (.int y8), .val (.ref b18), .val (.ref b22), .unset, .unset, .unset, .unset] [(.int y9)])) _
          refine XS.iconst X28.here hx rfl (hb hby at_121) ?_
          show Steps p.tables e below (T28.setTop (mkF m 122 #[.val (.int p1), .val (.int p2), .val (.int p3), .val (.int p4), .val (.int p5), .val (.ref b1), .val (.int y1), .val (.int y3), .val (.int y5), .val (.int y8), .val (.ref b18), .val (.ref b22), .unset, .unset, .unset, .unset] [(.int (3 : Int32)), (.int y9)])) _
          refine XS.iand X28.here hx rfl (hb hby at_122) rfl ?_
          show Steps p.tables e below (T28.setTop (mkF m 123 #[.val (.int p1), .val (.int p2), .val (.int p3), .val (.int p4), .val (.int p5), .val (.ref b1), .val (.int y1), .val (.int y3), .val (.int y5), .val (.int y8), .val (.ref b18), .val (.ref b22), .unset, .unset, .unset, .unset] [(.int (y9 &&& (3 : Int32)))])) _
          rw [pr25]
          show Steps p.tables e below (T28.setTop (mkF m 123 #[.val (.int p1), .val (.int p2), .val (.int p3), .val (.int p4), .val (.int p5), .val (.ref b1), .val (.int y1), .val (.int y3), .val (.int y5), .val (.int y8), .val (.ref b18), .val (.ref b22), .unset, .unset, .unset, .unset] [(.int y10)])) _
          refine XS.istore X28.here hx rfl (hb hby at_123) rfl (l' := #[.val (.int p1), .val (.int p2), .val (.int p3), .val (.int p4), .val (.int p5), .val (.ref b1), .val (.int y1), .val (.int y3), .val (.int y5), .val (.int y8), .val (.ref b18), .val (.ref b22), .val (.int y10), .unset, .unset, .unset]) rfl ?_
          refine XS.iload X28.here hx rfl (hb hby at_125) rfl ?_
          exact kt
        by_cases hf29 : y10 = (0 : Int32)
        · have pre30 : ∀ t, Steps p.tables e below (T28.setTop (mkF m 145 #[.val (.int p1), .val (.int p2), .val (.int p3), .val (.int p4), .val (.int p5), .val (.ref b1), .val (.int y1), .val (.int y3), .val (.int y5), .val (.int y8), .val (.ref b18), .val (.ref b22), .val (.int y10), .val (.ref b22), .unset, .unset] [(.int y8), (.int y5)])) t → Steps p.tables e below (s₁.setTop (entryFrame m #[(.int p1), (.int p2), (.int p3), (.int p4), (.int p5)] maxLocals)) t := by
            intro t kt
            refine pre29 _ ?_
            show Steps p.tables e below (T28.setTop (mkF m 127 #[.val (.int p1), .val (.int p2), .val (.int p3), .val (.int p4), .val (.int p5), .val (.ref b1), .val (.int y1), .val (.int y3), .val (.int y5), .val (.int y8), .val (.ref b18), .val (.ref b22), .val (.int y10), .unset, .unset, .unset] [(.int y10)])) _
            refine XS.ifNo X28.here hx rfl (hb hby at_127) rfl ((if0 _ _).trans (teq hf29).2) ?_
            show Steps p.tables e below (T28.setTop (mkF m 130 #[.val (.int p1), .val (.int p2), .val (.int p3), .val (.int p4), .val (.int p5), .val (.ref b1), .val (.int y1), .val (.int y3), .val (.int y5), .val (.int y8), .val (.ref b18), .val (.ref b22), .val (.int y10), .unset, .unset, .unset] [])) _
            refine XS.aload X28.here hx rfl (hb hby at_130) rfl rfl ?_
            refine XS.astore X28.here hx rfl (hb hby at_132) rfl rfl (l' := #[.val (.int p1), .val (.int p2), .val (.int p3), .val (.int p4), .val (.int p5), .val (.ref b1), .val (.int y1), .val (.int y3), .val (.int y5), .val (.int y8), .val (.ref b18), .val (.ref b22), .val (.int y10), .val (.ref b22), .unset, .unset]) rfl ?_
            refine XS.iload X28.here hx rfl (hb hby at_134) rfl ?_
            refine XS.iload X28.here hx rfl (hb hby at_136) rfl ?_
            show Steps p.tables e below (T28.setTop (mkF m 138 #[.val (.int p1), .val (.int p2), .val (.int p3), .val (.int p4), .val (.int p5), .val (.ref b1), .val (.int y1), .val (.int y3), .val (.int y5), .val (.int y8), .val (.ref b18), .val (.ref b22), .val (.int y10), .val (.ref b22), .unset, .unset] [(.int y3), (.int y1)])) _
            refine XS.icmpNo X28.here hx rfl (hb hby at_138) rfl (teq hf25).2 ?_
            show Steps p.tables e below (T28.setTop (mkF m 141 #[.val (.int p1), .val (.int p2), .val (.int p3), .val (.int p4), .val (.int p5), .val (.ref b1), .val (.int y1), .val (.int y3), .val (.int y5), .val (.int y8), .val (.ref b18), .val (.ref b22), .val (.int y10), .val (.ref b22), .unset, .unset] [])) _
            refine XS.iload X28.here hx rfl (hb hby at_141) rfl ?_
            refine XS.iload X28.here hx rfl (hb hby at_143) rfl ?_
            exact kt
          by_cases hf30 : y5 = y8
          · have fc32 := (A22.keep K28)
            have fc33 := ((u21_0.ext E22).keep K28 (ninS (Nat.ne_of_lt (Nat.lt_of_lt_of_le u21_1.lt (Nat.le_of_eq g22.symm))) nin0))
            have fc34 := ((u21_1.ext E22).keep K28 (ninS (Nat.ne_of_lt (Nat.lt_of_lt_of_le u21_1.lt (Nat.le_of_eq g22.symm))) nin0))
            have fc35 := (((A18.keep K21).ext E22).keep K28)
            obtain ⟨cq31, kq31, q31a, q31b, q31c⟩ := isOf hZ28 rfl fc35
            obtain ⟨_, _, ⟨T31, L31, k31, n31⟩, -, X31, ⟨Lc31, hQ31, l31, y31, z31⟩, st31⟩ := X28.virtualBack hx (y := (⟨"com/example/larch/larch/model/Interval", "equals", "(Ljava/lang/Object;)Z"⟩ : MethodName)) (z := (⟨"com/example/larch/larch/model/Interval", "equals", "(Ljava/lang/Object;)Z"⟩ : MethodName)) hown28 (mvT hZ28 (wd42 hw)) (mvT hZ28 (wd43 hw)) (notFace_of_selects (args := #[]) (mvT hZ28 (wd45 hw))) (mvT hZ28 (wd45 hw)) (mvT hZ28 (wd44 hw)) (by decide) (backOf (W := 0) (rm5_0 l Z a0 hw [] b18 b22 v1 y5 y8 T28.heap n0 OL28 fc32 fc33 u28_0 fc34 u28_1 hf30) hZ28 (wd46 hw) (wd19 hw) (by decide) (by decide)) q31a q31c (g := (mkF m 203 #[.val (.int p1), .val (.int p2), .val (.int p3), .val (.int p4), .val (.int p5), .val (.ref b1), .val (.int y1), .val (.int y3), .val (.int y5), .val (.int y8), .val (.ref b18), .val (.ref b22), .val (.int y10), .val (.ref b22), .val (.int (1 : Int32)), .unset] [(.ref b22), (.ref b18)])) rfl (by rw [hml]; rfl) (Steps.refl _) (argsL := [(.ref b22)]) (rest := []) (lenOf pd_3 rfl) rfl (by show 2 * 0 + _ ≤ _; exact Nat.le_of_eq rfl) (hb hby at_203) (fun _ _ => ⟨rfl, rfl, (by decide : 7 + 0 ≤ _), (by decide : 48 + 0 ≤ _)⟩)
            dsimp only [Pt.U, Pt.locs, Pt.cells, Pt.slots] at X31 l31 y31 z31 st31 hQ31
            subst l31 y31 z31
            obtain ⟨rfl, Nq31, ec31⟩ := hQ31
            have N31 := Fr.app N28 Nq31
            obtain ⟨cq36, kq36, q36a, q36b, q36c⟩ := isOf hZ28 ec31 fc32
            obtain ⟨_, _, ⟨T36, L36, k36, n36⟩, -, X36, ⟨Lc36, hQ36, l36, y36, z36⟩, st36⟩ := X31.virtualBack hx (y := (⟨"com/example/larch/larch/model/Interval", "equals", "(Ljava/lang/Object;)Z"⟩ : MethodName)) (z := (⟨"com/example/larch/larch/model/Interval", "equals", "(Ljava/lang/Object;)Z"⟩ : MethodName)) hown28 (mvT hZ28 (wd42 hw)) (mvT hZ28 (wd43 hw)) (notFace_of_selects (args := #[]) (mvT hZ28 (wd45 hw))) (mvT hZ28 (wd45 hw)) (mvT hZ28 (wd44 hw)) (by decide) (backOf (W := 0) (rm5_0 l Z a0 hw [] b22 b18 v1 y8 y5 T28.heap n0 OL28 fc35 u28_0 fc33 u28_1 fc34 (Eq.symm hf30)) hZ28 (wd46 hw) (wd19 hw) (by decide) (by decide)) q36a q36c (g := (mkF m 226 #[.val (.int p1), .val (.int p2), .val (.int p3), .val (.int p4), .val (.int p5), .val (.ref b1), .val (.int y1), .val (.int y3), .val (.int y5), .val (.int y8), .val (.ref b18), .val (.ref b22), .val (.int y10), .val (.ref b22), .val (.int (1 : Int32)), .val (.int (1 : Int32))] [(.ref b18), (.ref b22)])) rfl (by rw [hml]; rfl) (Steps.refl _) (argsL := [(.ref b18)]) (rest := []) (lenOf pd_3 rfl) rfl (by show 2 * 0 + _ ≤ _; exact Nat.le_of_eq rfl) (hb hby at_226) (fun _ _ => ⟨rfl, ec31, (by decide : 7 + 0 ≤ _), (by decide : 48 + 0 ≤ _)⟩)
            dsimp only [Pt.U, Pt.locs, Pt.cells, Pt.slots] at X36 l36 y36 z36 st36 hQ36
            subst l36 y36 z36
            obtain ⟨rfl, Nq36, ec36⟩ := hQ36
            have N36 := Fr.app N31 Nq36
            obtain ⟨fs, hr, hrun, hended, hRW⟩ := X36.leaveW (s := s) hS28 (by rw [ec36]; exact (Nat.le_refl _)) (v := some (.int (1 : Int32))) (fun h => by rw [Bd.returns] at h; cases h)
            refine ⟨_, _, pre30 _ ?_, hrun, hended, _, _, rfl, ⟨rfl, N36⟩, hRW.1, hRW.2.1, hRW.2.2.1, hRW.2.2.2.mono (by decide) (by decide)⟩
            show Steps p.tables e below (T28.setTop (mkF m 145 #[.val (.int p1), .val (.int p2), .val (.int p3), .val (.int p4), .val (.int p5), .val (.ref b1), .val (.int y1), .val (.int y3), .val (.int y5), .val (.int y8), .val (.ref b18), .val (.ref b22), .val (.int y10), .val (.ref b22), .unset, .unset] [(.int y8), (.int y5)])) _
            refine XS.icmpNo X28.here hx rfl (hb hby at_145) rfl (teq hf30).2 ?_
            show Steps p.tables e below (T28.setTop (mkF m 148 #[.val (.int p1), .val (.int p2), .val (.int p3), .val (.int p4), .val (.int p5), .val (.ref b1), .val (.int y1), .val (.int y3), .val (.int y5), .val (.int y8), .val (.ref b18), .val (.ref b22), .val (.int y10), .val (.ref b22), .unset, .unset] [])) _
            refine XS.iconst X28.here hx rfl (hb hby at_148) ?_
            refine XS.goto X28.here hx rfl (pc0 := 149) (pc' := 153) rfl (hb hby at_149) (by decide) (by decide) ?_
            refine XS.istore X28.here hx rfl (hb hby at_153) rfl (l' := #[.val (.int p1), .val (.int p2), .val (.int p3), .val (.int p4), .val (.int p5), .val (.ref b1), .val (.int y1), .val (.int y3), .val (.int y5), .val (.int y8), .val (.ref b18), .val (.ref b22), .val (.int y10), .val (.ref b22), .val (.int (1 : Int32)), .unset]) rfl ?_
            refine XS.goto X28.here hx rfl (pc0 := 155) (pc' := 199) rfl (hb hby at_155) (by decide) (by decide) ?_
            show Steps p.tables e below (T28.setTop (mkF m 199 #[.val (.int p1), .val (.int p2), .val (.int p3), .val (.int p4), .val (.int p5), .val (.ref b1), .val (.int y1), .val (.int y3), .val (.int y5), .val (.int y8), .val (.ref b18), .val (.ref b22), .val (.int y10), .val (.ref b22), .val (.int (1 : Int32)), .unset] [])) _
            refine XS.aload X28.here hx rfl (hb hby at_199) rfl rfl ?_
            refine XS.aload X28.here hx rfl (hb hby at_201) rfl rfl ?_
            show Steps p.tables e below (T28.setTop (mkF m 203 #[.val (.int p1), .val (.int p2), .val (.int p3), .val (.int p4), .val (.int p5), .val (.ref b1), .val (.int y1), .val (.int y3), .val (.int y5), .val (.int y8), .val (.ref b18), .val (.ref b22), .val (.int y10), .val (.ref b22), .val (.int (1 : Int32)), .unset] [(.ref b22), (.ref b18)])) _
            refine st31.trans ?_
            show Steps p.tables e below (T31.setTop (mkF m 206 #[.val (.int p1), .val (.int p2), .val (.int p3), .val (.int p4), .val (.int p5), .val (.ref b1), .val (.int y1), .val (.int y3), .val (.int y5), .val (.int y8), .val (.ref b18), .val (.ref b22), .val (.int y10), .val (.ref b22), .val (.int (1 : Int32)), .unset] [(.int (1 : Int32))])) _
            refine XS.istore X31.here hx rfl (hb hby at_206) rfl (l' := #[.val (.int p1), .val (.int p2), .val (.int p3), .val (.int p4), .val (.int p5), .val (.ref b1), .val (.int y1), .val (.int y3), .val (.int y5), .val (.int y8), .val (.ref b18), .val (.ref b22), .val (.int y10), .val (.ref b22), .val (.int (1 : Int32)), .val (.int (1 : Int32))]) rfl ?_
            refine XS.iload X31.here hx rfl (hb hby at_208) rfl ?_
            refine XS.iload X31.here hx rfl (hb hby at_210) rfl ?_
            show Steps p.tables e below (T31.setTop (mkF m 212 #[.val (.int p1), .val (.int p2), .val (.int p3), .val (.int p4), .val (.int p5), .val (.ref b1), .val (.int y1), .val (.int y3), .val (.int y5), .val (.int y8), .val (.ref b18), .val (.ref b22), .val (.int y10), .val (.ref b22), .val (.int (1 : Int32)), .val (.int (1 : Int32))] [(.int (1 : Int32)), (.int (1 : Int32))])) _
            refine XS.icmpYes X31.here hx rfl (pc0 := 212) (pc' := 217) rfl (hb hby at_212) rfl (teq (rfl : (1 : Int32) = (1 : Int32))).1 (by decide) (by decide) ?_
            show Steps p.tables e below (T31.setTop (mkF m 217 #[.val (.int p1), .val (.int p2), .val (.int p3), .val (.int p4), .val (.int p5), .val (.ref b1), .val (.int y1), .val (.int y3), .val (.int y5), .val (.int y8), .val (.ref b18), .val (.ref b22), .val (.int y10), .val (.ref b22), .val (.int (1 : Int32)), .val (.int (1 : Int32))] [])) _
            refine XS.iload X31.here hx rfl (hb hby at_217) rfl ?_
            show Steps p.tables e below (T31.setTop (mkF m 219 #[.val (.int p1), .val (.int p2), .val (.int p3), .val (.int p4), .val (.int p5), .val (.ref b1), .val (.int y1), .val (.int y3), .val (.int y5), .val (.int y8), .val (.ref b18), .val (.ref b22), .val (.int y10), .val (.ref b22), .val (.int (1 : Int32)), .val (.int (1 : Int32))] [(.int y10)])) _
            refine XS.ifNo X31.here hx rfl (hb hby at_219) rfl ((if0 _ _).trans (teq hf29).2) ?_
            show Steps p.tables e below (T31.setTop (mkF m 222 #[.val (.int p1), .val (.int p2), .val (.int p3), .val (.int p4), .val (.int p5), .val (.ref b1), .val (.int y1), .val (.int y3), .val (.int y5), .val (.int y8), .val (.ref b18), .val (.ref b22), .val (.int y10), .val (.ref b22), .val (.int (1 : Int32)), .val (.int (1 : Int32))] [])) _
            refine XS.aload X31.here hx rfl (hb hby at_222) rfl rfl ?_
            refine XS.aload X31.here hx rfl (hb hby at_224) rfl rfl ?_
            show Steps p.tables e below (T31.setTop (mkF m 226 #[.val (.int p1), .val (.int p2), .val (.int p3), .val (.int p4), .val (.int p5), .val (.ref b1), .val (.int y1), .val (.int y3), .val (.int y5), .val (.int y8), .val (.ref b18), .val (.ref b22), .val (.int y10), .val (.ref b22), .val (.int (1 : Int32)), .val (.int (1 : Int32))] [(.ref b18), (.ref b22)])) _
            refine st36.trans ?_
            show Steps p.tables e below (T36.setTop (mkF m 229 #[.val (.int p1), .val (.int p2), .val (.int p3), .val (.int p4), .val (.int p5), .val (.ref b1), .val (.int y1), .val (.int y3), .val (.int y5), .val (.int y8), .val (.ref b18), .val (.ref b22), .val (.int y10), .val (.ref b22), .val (.int (1 : Int32)), .val (.int (1 : Int32))] [(.int (1 : Int32))])) _
            refine XS.iload X36.here hx rfl (hb hby at_229) rfl ?_
            show Steps p.tables e below (T36.setTop (mkF m 231 #[.val (.int p1), .val (.int p2), .val (.int p3), .val (.int p4), .val (.int p5), .val (.ref b1), .val (.int y1), .val (.int y3), .val (.int y5), .val (.int y8), .val (.ref b18), .val (.ref b22), .val (.int y10), .val (.ref b22), .val (.int (1 : Int32)), .val (.int (1 : Int32))] [(.int (1 : Int32)), (.int (1 : Int32))])) _
            refine XS.icmpNo X36.here hx rfl (hb hby at_231) rfl (teq (rfl : (1 : Int32) = (1 : Int32))).2 ?_
            show Steps p.tables e below (T36.setTop (mkF m 234 #[.val (.int p1), .val (.int p2), .val (.int p3), .val (.int p4), .val (.int p5), .val (.ref b1), .val (.int y1), .val (.int y3), .val (.int y5), .val (.int y8), .val (.ref b18), .val (.ref b22), .val (.int y10), .val (.ref b22), .val (.int (1 : Int32)), .val (.int (1 : Int32))] [])) _
            refine XS.iconst X36.here hx rfl (hb hby at_234) ?_
            refine XS.goto X36.here hx rfl (pc0 := 235) (pc' := 239) rfl (hb hby at_235) (by decide) (by decide) ?_
            show Steps p.tables e below (T36.setTop (mkF m 239 #[.val (.int p1), .val (.int p2), .val (.int p3), .val (.int p4), .val (.int p5), .val (.ref b1), .val (.int y1), .val (.int y3), .val (.int y5), .val (.int y8), .val (.ref b18), .val (.ref b22), .val (.int y10), .val (.ref b22), .val (.int (1 : Int32)), .val (.int (1 : Int32))] [(.int (1 : Int32))])) _
            exact retN X36 hx (t := .boolean) Bd.returns (by simp) (hb hby at_239) hr
          · have fc38 := (A22.keep K28)
            have fc39 := ((u21_0.ext E22).keep K28 (ninS (Nat.ne_of_lt (Nat.lt_of_lt_of_le u21_1.lt (Nat.le_of_eq g22.symm))) nin0))
            have fc40 := ((u21_1.ext E22).keep K28 (ninS (Nat.ne_of_lt (Nat.lt_of_lt_of_le u21_1.lt (Nat.le_of_eq g22.symm))) nin0))
            have fc41 := (((A18.keep K21).ext E22).keep K28)
            obtain ⟨cq37, kq37, q37a, q37b, q37c⟩ := isOf hZ28 rfl fc41
            obtain ⟨_, _, ⟨T37, L37, k37, n37⟩, -, X37, ⟨Lc37, hQ37, l37, y37, z37⟩, st37⟩ := X28.virtualBack hx (y := (⟨"com/example/larch/larch/model/Interval", "equals", "(Ljava/lang/Object;)Z"⟩ : MethodName)) (z := (⟨"com/example/larch/larch/model/Interval", "equals", "(Ljava/lang/Object;)Z"⟩ : MethodName)) hown28 (mvT hZ28 (wd42 hw)) (mvT hZ28 (wd43 hw)) (notFace_of_selects (args := #[]) (mvT hZ28 (wd45 hw))) (mvT hZ28 (wd45 hw)) (mvT hZ28 (wd44 hw)) (by decide) (backOf (W := 0) (rm5_1 l Z a0 hw [] b18 b22 v1 y5 y8 T28.heap n0 OL28 fc38 fc39 u28_0 fc40 u28_1 hf30) hZ28 (wd46 hw) (wd19 hw) (by decide) (by decide)) q37a q37c (g := (mkF m 203 #[.val (.int p1), .val (.int p2), .val (.int p3), .val (.int p4), .val (.int p5), .val (.ref b1), .val (.int y1), .val (.int y3), .val (.int y5), .val (.int y8), .val (.ref b18), .val (.ref b22), .val (.int y10), .val (.ref b22), .val (.int (0 : Int32)), .unset] [(.ref b22), (.ref b18)])) rfl (by rw [hml]; rfl) (Steps.refl _) (argsL := [(.ref b22)]) (rest := []) (lenOf pd_3 rfl) rfl (by show 2 * 0 + _ ≤ _; exact Nat.le_of_eq rfl) (hb hby at_203) (fun _ _ => ⟨rfl, rfl, (by decide : 7 + 0 ≤ _), (by decide : 48 + 0 ≤ _)⟩)
            dsimp only [Pt.U, Pt.locs, Pt.cells, Pt.slots] at X37 l37 y37 z37 st37 hQ37
            subst l37 y37 z37
            obtain ⟨rfl, Nq37, ec37⟩ := hQ37
            have N37 := Fr.app N28 Nq37
            obtain ⟨cq42, kq42, q42a, q42b, q42c⟩ := isOf hZ28 ec37 fc38
            obtain ⟨_, _, ⟨T42, L42, k42, n42⟩, -, X42, ⟨Lc42, hQ42, l42, y42, z42⟩, st42⟩ := X37.virtualBack hx (y := (⟨"com/example/larch/larch/model/Interval", "equals", "(Ljava/lang/Object;)Z"⟩ : MethodName)) (z := (⟨"com/example/larch/larch/model/Interval", "equals", "(Ljava/lang/Object;)Z"⟩ : MethodName)) hown28 (mvT hZ28 (wd42 hw)) (mvT hZ28 (wd43 hw)) (notFace_of_selects (args := #[]) (mvT hZ28 (wd45 hw))) (mvT hZ28 (wd45 hw)) (mvT hZ28 (wd44 hw)) (by decide) (backOf (W := 0) (rm5_1 l Z a0 hw [] b22 b18 v1 y8 y5 T28.heap n0 OL28 fc41 u28_0 fc39 u28_1 fc40 (fun z => hf30 z.symm)) hZ28 (wd46 hw) (wd19 hw) (by decide) (by decide)) q42a q42c (g := (mkF m 226 #[.val (.int p1), .val (.int p2), .val (.int p3), .val (.int p4), .val (.int p5), .val (.ref b1), .val (.int y1), .val (.int y3), .val (.int y5), .val (.int y8), .val (.ref b18), .val (.ref b22), .val (.int y10), .val (.ref b22), .val (.int (0 : Int32)), .val (.int (0 : Int32))] [(.ref b18), (.ref b22)])) rfl (by rw [hml]; rfl) (Steps.refl _) (argsL := [(.ref b18)]) (rest := []) (lenOf pd_3 rfl) rfl (by show 2 * 0 + _ ≤ _; exact Nat.le_of_eq rfl) (hb hby at_226) (fun _ _ => ⟨rfl, ec37, (by decide : 7 + 0 ≤ _), (by decide : 48 + 0 ≤ _)⟩)
            dsimp only [Pt.U, Pt.locs, Pt.cells, Pt.slots] at X42 l42 y42 z42 st42 hQ42
            subst l42 y42 z42
            obtain ⟨rfl, Nq42, ec42⟩ := hQ42
            have N42 := Fr.app N37 Nq42
            obtain ⟨fs, hr, hrun, hended, hRW⟩ := X42.leaveW (s := s) hS28 (by rw [ec42]; exact (Nat.le_refl _)) (v := some (.int (1 : Int32))) (fun h => by rw [Bd.returns] at h; cases h)
            refine ⟨_, _, pre30 _ ?_, hrun, hended, _, _, rfl, ⟨rfl, N42⟩, hRW.1, hRW.2.1, hRW.2.2.1, hRW.2.2.2.mono (by decide) (by decide)⟩
            show Steps p.tables e below (T28.setTop (mkF m 145 #[.val (.int p1), .val (.int p2), .val (.int p3), .val (.int p4), .val (.int p5), .val (.ref b1), .val (.int y1), .val (.int y3), .val (.int y5), .val (.int y8), .val (.ref b18), .val (.ref b22), .val (.int y10), .val (.ref b22), .unset, .unset] [(.int y8), (.int y5)])) _
            refine XS.icmpYes X28.here hx rfl (pc0 := 145) (pc' := 152) rfl (hb hby at_145) rfl (feq hf30).2 (by decide) (by decide) ?_
            show Steps p.tables e below (T28.setTop (mkF m 152 #[.val (.int p1), .val (.int p2), .val (.int p3), .val (.int p4), .val (.int p5), .val (.ref b1), .val (.int y1), .val (.int y3), .val (.int y5), .val (.int y8), .val (.ref b18), .val (.ref b22), .val (.int y10), .val (.ref b22), .unset, .unset] [])) _
            refine XS.iconst X28.here hx rfl (hb hby at_152) ?_
            refine XS.istore X28.here hx rfl (hb hby at_153) rfl (l' := #[.val (.int p1), .val (.int p2), .val (.int p3), .val (.int p4), .val (.int p5), .val (.ref b1), .val (.int y1), .val (.int y3), .val (.int y5), .val (.int y8), .val (.ref b18), .val (.ref b22), .val (.int y10), .val (.ref b22), .val (.int (0 : Int32)), .unset]) rfl ?_
            refine XS.goto X28.here hx rfl (pc0 := 155) (pc' := 199) rfl (hb hby at_155) (by decide) (by decide) ?_
            refine XS.aload X28.here hx rfl (hb hby at_199) rfl rfl ?_
            show Steps p.tables e below (T28.setTop (mkF m 201 #[.val (.int p1), .val (.int p2), .val (.int p3), .val (.int p4), .val (.int p5), .val (.ref b1), .val (.int y1), .val (.int y3), .val (.int y5), .val (.int y8), .val (.ref b18), .val (.ref b22), .val (.int y10), .val (.ref b22), .val (.int (0 : Int32)), .unset] [(.ref b18)])) _
            refine XS.aload X28.here hx rfl (hb hby at_201) rfl rfl ?_
            show Steps p.tables e below (T28.setTop (mkF m 203 #[.val (.int p1), .val (.int p2), .val (.int p3), .val (.int p4), .val (.int p5), .val (.ref b1), .val (.int y1), .val (.int y3), .val (.int y5), .val (.int y8), .val (.ref b18), .val (.ref b22), .val (.int y10), .val (.ref b22), .val (.int (0 : Int32)), .unset] [(.ref b22), (.ref b18)])) _
            refine st37.trans ?_
            show Steps p.tables e below (T37.setTop (mkF m 206 #[.val (.int p1), .val (.int p2), .val (.int p3), .val (.int p4), .val (.int p5), .val (.ref b1), .val (.int y1), .val (.int y3), .val (.int y5), .val (.int y8), .val (.ref b18), .val (.ref b22), .val (.int y10), .val (.ref b22), .val (.int (0 : Int32)), .unset] [(.int (0 : Int32))])) _
            refine XS.istore X37.here hx rfl (hb hby at_206) rfl (l' := #[.val (.int p1), .val (.int p2), .val (.int p3), .val (.int p4), .val (.int p5), .val (.ref b1), .val (.int y1), .val (.int y3), .val (.int y5), .val (.int y8), .val (.ref b18), .val (.ref b22), .val (.int y10), .val (.ref b22), .val (.int (0 : Int32)), .val (.int (0 : Int32))]) rfl ?_
            refine XS.iload X37.here hx rfl (hb hby at_208) rfl ?_
            refine XS.iload X37.here hx rfl (hb hby at_210) rfl ?_
            show Steps p.tables e below (T37.setTop (mkF m 212 #[.val (.int p1), .val (.int p2), .val (.int p3), .val (.int p4), .val (.int p5), .val (.ref b1), .val (.int y1), .val (.int y3), .val (.int y5), .val (.int y8), .val (.ref b18), .val (.ref b22), .val (.int y10), .val (.ref b22), .val (.int (0 : Int32)), .val (.int (0 : Int32))] [(.int (0 : Int32)), (.int (0 : Int32))])) _
            refine XS.icmpYes X37.here hx rfl (pc0 := 212) (pc' := 217) rfl (hb hby at_212) rfl (teq (rfl : (0 : Int32) = (0 : Int32))).1 (by decide) (by decide) ?_
            show Steps p.tables e below (T37.setTop (mkF m 217 #[.val (.int p1), .val (.int p2), .val (.int p3), .val (.int p4), .val (.int p5), .val (.ref b1), .val (.int y1), .val (.int y3), .val (.int y5), .val (.int y8), .val (.ref b18), .val (.ref b22), .val (.int y10), .val (.ref b22), .val (.int (0 : Int32)), .val (.int (0 : Int32))] [])) _
            refine XS.iload X37.here hx rfl (hb hby at_217) rfl ?_
            show Steps p.tables e below (T37.setTop (mkF m 219 #[.val (.int p1), .val (.int p2), .val (.int p3), .val (.int p4), .val (.int p5), .val (.ref b1), .val (.int y1), .val (.int y3), .val (.int y5), .val (.int y8), .val (.ref b18), .val (.ref b22), .val (.int y10), .val (.ref b22), .val (.int (0 : Int32)), .val (.int (0 : Int32))] [(.int y10)])) _
            refine XS.ifNo X37.here hx rfl (hb hby at_219) rfl ((if0 _ _).trans (teq hf29).2) ?_
            show Steps p.tables e below (T37.setTop (mkF m 222 #[.val (.int p1), .val (.int p2), .val (.int p3), .val (.int p4), .val (.int p5), .val (.ref b1), .val (.int y1), .val (.int y3), .val (.int y5), .val (.int y8), .val (.ref b18), .val (.ref b22), .val (.int y10), .val (.ref b22), .val (.int (0 : Int32)), .val (.int (0 : Int32))] [])) _
            refine XS.aload X37.here hx rfl (hb hby at_222) rfl rfl ?_
            refine XS.aload X37.here hx rfl (hb hby at_224) rfl rfl ?_
            show Steps p.tables e below (T37.setTop (mkF m 226 #[.val (.int p1), .val (.int p2), .val (.int p3), .val (.int p4), .val (.int p5), .val (.ref b1), .val (.int y1), .val (.int y3), .val (.int y5), .val (.int y8), .val (.ref b18), .val (.ref b22), .val (.int y10), .val (.ref b22), .val (.int (0 : Int32)), .val (.int (0 : Int32))] [(.ref b18), (.ref b22)])) _
            refine st42.trans ?_
            show Steps p.tables e below (T42.setTop (mkF m 229 #[.val (.int p1), .val (.int p2), .val (.int p3), .val (.int p4), .val (.int p5), .val (.ref b1), .val (.int y1), .val (.int y3), .val (.int y5), .val (.int y8), .val (.ref b18), .val (.ref b22), .val (.int y10), .val (.ref b22), .val (.int (0 : Int32)), .val (.int (0 : Int32))] [(.int (0 : Int32))])) _
            refine XS.iload X42.here hx rfl (hb hby at_229) rfl ?_
            show Steps p.tables e below (T42.setTop (mkF m 231 #[.val (.int p1), .val (.int p2), .val (.int p3), .val (.int p4), .val (.int p5), .val (.ref b1), .val (.int y1), .val (.int y3), .val (.int y5), .val (.int y8), .val (.ref b18), .val (.ref b22), .val (.int y10), .val (.ref b22), .val (.int (0 : Int32)), .val (.int (0 : Int32))] [(.int (0 : Int32)), (.int (0 : Int32))])) _
            refine XS.icmpNo X42.here hx rfl (hb hby at_231) rfl (teq (rfl : (0 : Int32) = (0 : Int32))).2 ?_
            show Steps p.tables e below (T42.setTop (mkF m 234 #[.val (.int p1), .val (.int p2), .val (.int p3), .val (.int p4), .val (.int p5), .val (.ref b1), .val (.int y1), .val (.int y3), .val (.int y5), .val (.int y8), .val (.ref b18), .val (.ref b22), .val (.int y10), .val (.ref b22), .val (.int (0 : Int32)), .val (.int (0 : Int32))] [])) _
            refine XS.iconst X42.here hx rfl (hb hby at_234) ?_
            refine XS.goto X42.here hx rfl (pc0 := 235) (pc' := 239) rfl (hb hby at_235) (by decide) (by decide) ?_
            show Steps p.tables e below (T42.setTop (mkF m 239 #[.val (.int p1), .val (.int p2), .val (.int p3), .val (.int p4), .val (.int p5), .val (.ref b1), .val (.int y1), .val (.int y3), .val (.int y5), .val (.int y8), .val (.ref b18), .val (.ref b22), .val (.int y10), .val (.ref b22), .val (.int (0 : Int32)), .val (.int (0 : Int32))] [(.int (1 : Int32))])) _
            exact retN X42 hx (t := .boolean) Bd.returns (by simp) (hb hby at_239) hr
        · have pre43 : ∀ t, Steps p.tables e below (T28.setTop (mkF m 161 #[.val (.int p1), .val (.int p2), .val (.int p3), .val (.int p4), .val (.int p5), .val (.ref b1), .val (.int y1), .val (.int y3), .val (.int y5), .val (.int y8), .val (.ref b18), .val (.ref b22), .val (.int y10), .unset, .unset, .unset] [(.int (1 : Int32)), (.int y10)])) t → Steps p.tables e below (s₁.setTop (entryFrame m #[(.int p1), (.int p2), (.int p3), (.int p4), (.int p5)] maxLocals)) t := by
            intro t kt
            refine pre29 _ ?_
            show Steps p.tables e below (T28.setTop (mkF m 127 #[.val (.int p1), .val (.int p2), .val (.int p3), .val (.int p4), .val (.int p5), .val (.ref b1), .val (.int y1), .val (.int y3), .val (.int y5), .val (.int y8), .val (.ref b18), .val (.ref b22), .val (.int y10), .unset, .unset, .unset] [(.int y10)])) _
            refine XS.ifYes X28.here hx rfl (pc0 := 127) (pc' := 158) rfl (hb hby at_127) rfl ((if0 _ _).trans (feq hf29).2) (by decide) (by decide) ?_
            show Steps p.tables e below (T28.setTop (mkF m 158 #[.val (.int p1), .val (.int p2), .val (.int p3), .val (.int p4), .val (.int p5), .val (.ref b1), .val (.int y1), .val (.int y3), .val (.int y5), .val (.int y8), .val (.ref b18), .val (.ref b22), .val (.int y10), .unset, .unset, .unset] [])) _
            refine XS.iload X28.here hx rfl (hb hby at_158) rfl ?_
            refine XS.iconst X28.here hx rfl (hb hby at_160) ?_
            exact kt
          by_cases hf43 : y10 = (1 : Int32)
          · have fc45 := (((A18.keep K21).ext E22).keep K28)
            obtain ⟨cq44, kq44, q44a, q44b, q44c⟩ := isOf hZ28 rfl fc45
            obtain ⟨_, _, ⟨T44, L44, k44, n44⟩, -, X44, ⟨Lc44, hQ44, l44, y44, z44⟩, st44⟩ := X28.virtualBack hx (y := (⟨"com/example/larch/larch/model/Interval", "equals", "(Ljava/lang/Object;)Z"⟩ : MethodName)) (z := (⟨"com/example/larch/larch/model/Interval", "equals", "(Ljava/lang/Object;)Z"⟩ : MethodName)) hown28 (mvT hZ28 (wd42 hw)) (mvT hZ28 (wd43 hw)) (notFace_of_selects (args := #[]) (mvT hZ28 (wd45 hw))) (mvT hZ28 (wd45 hw)) (mvT hZ28 (wd44 hw)) (by decide) (backOf (W := 0) (rm5_2 l Z a0 hw [] b18 T28.heap n0 OL28 ) hZ28 (wd46 hw) (wd19 hw) (by decide) (by decide)) q44a q44c (g := (mkF m 203 #[.val (.int p1), .val (.int p2), .val (.int p3), .val (.int p4), .val (.int p5), .val (.ref b1), .val (.int y1), .val (.int y3), .val (.int y5), .val (.int y8), .val (.ref b18), .val (.ref b22), .val (.int y10), .val .null, .val (.int (0 : Int32)), .unset] [.null, (.ref b18)])) rfl (by rw [hml]; rfl) (Steps.refl _) (argsL := [.null]) (rest := []) (lenOf pd_3 rfl) rfl (by show 2 * 0 + _ ≤ _; exact Nat.le_of_eq rfl) (hb hby at_203) (fun _ _ => ⟨rfl, rfl, (by decide : 7 + 0 ≤ _), (by decide : 48 + 0 ≤ _)⟩)
            dsimp only [Pt.U, Pt.locs, Pt.cells, Pt.slots] at X44 l44 y44 z44 st44 hQ44
            subst l44 y44 z44
            obtain ⟨rfl, Nq44, ec44⟩ := hQ44
            have N44 := Fr.app N28 Nq44
            obtain ⟨fs, hr, hrun, hended, hRW⟩ := X44.leaveW (s := s) hS28 (by rw [ec44]; exact (Nat.le_refl _)) (v := some (.int (1 : Int32))) (fun h => by rw [Bd.returns] at h; cases h)
            refine ⟨_, _, pre43 _ ?_, hrun, hended, _, _, rfl, ⟨rfl, N44⟩, hRW.1, hRW.2.1, hRW.2.2.1, hRW.2.2.2.mono (by decide) (by decide)⟩
            show Steps p.tables e below (T28.setTop (mkF m 161 #[.val (.int p1), .val (.int p2), .val (.int p3), .val (.int p4), .val (.int p5), .val (.ref b1), .val (.int y1), .val (.int y3), .val (.int y5), .val (.int y8), .val (.ref b18), .val (.ref b22), .val (.int y10), .unset, .unset, .unset] [(.int (1 : Int32)), (.int y10)])) _
            refine XS.icmpNo X28.here hx rfl (hb hby at_161) rfl (teq hf43).2 ?_
            show Steps p.tables e below (T28.setTop (mkF m 164 #[.val (.int p1), .val (.int p2), .val (.int p3), .val (.int p4), .val (.int p5), .val (.ref b1), .val (.int y1), .val (.int y3), .val (.int y5), .val (.int y8), .val (.ref b18), .val (.ref b22), .val (.int y10), .unset, .unset, .unset] [])) _
            refine XS.aconstNull X28.here hx rfl (hb hby at_164) ?_
            refine XS.astore X28.here hx rfl (hb hby at_165) rfl rfl (l' := #[.val (.int p1), .val (.int p2), .val (.int p3), .val (.int p4), .val (.int p5), .val (.ref b1), .val (.int y1), .val (.int y3), .val (.int y5), .val (.int y8), .val (.ref b18), .val (.ref b22), .val (.int y10), .val .null, .unset, .unset]) rfl ?_
            refine XS.iconst X28.here hx rfl (hb hby at_167) ?_
            refine XS.istore X28.here hx rfl (hb hby at_168) rfl (l' := #[.val (.int p1), .val (.int p2), .val (.int p3), .val (.int p4), .val (.int p5), .val (.ref b1), .val (.int y1), .val (.int y3), .val (.int y5), .val (.int y8), .val (.ref b18), .val (.ref b22), .val (.int y10), .val .null, .val (.int (0 : Int32)), .unset]) rfl ?_
            show Steps p.tables e below (T28.setTop (mkF m 170 #[.val (.int p1), .val (.int p2), .val (.int p3), .val (.int p4), .val (.int p5), .val (.ref b1), .val (.int y1), .val (.int y3), .val (.int y5), .val (.int y8), .val (.ref b18), .val (.ref b22), .val (.int y10), .val .null, .val (.int (0 : Int32)), .unset] [])) _
            refine XS.goto X28.here hx rfl (pc0 := 170) (pc' := 199) rfl (hb hby at_170) (by decide) (by decide) ?_
            refine XS.aload X28.here hx rfl (hb hby at_199) rfl rfl ?_
            refine XS.aload X28.here hx rfl (hb hby at_201) rfl rfl ?_
            show Steps p.tables e below (T28.setTop (mkF m 203 #[.val (.int p1), .val (.int p2), .val (.int p3), .val (.int p4), .val (.int p5), .val (.ref b1), .val (.int y1), .val (.int y3), .val (.int y5), .val (.int y8), .val (.ref b18), .val (.ref b22), .val (.int y10), .val .null, .val (.int (0 : Int32)), .unset] [.null, (.ref b18)])) _
            refine st44.trans ?_
            show Steps p.tables e below (T44.setTop (mkF m 206 #[.val (.int p1), .val (.int p2), .val (.int p3), .val (.int p4), .val (.int p5), .val (.ref b1), .val (.int y1), .val (.int y3), .val (.int y5), .val (.int y8), .val (.ref b18), .val (.ref b22), .val (.int y10), .val .null, .val (.int (0 : Int32)), .unset] [(.int (0 : Int32))])) _
            refine XS.istore X44.here hx rfl (hb hby at_206) rfl (l' := #[.val (.int p1), .val (.int p2), .val (.int p3), .val (.int p4), .val (.int p5), .val (.ref b1), .val (.int y1), .val (.int y3), .val (.int y5), .val (.int y8), .val (.ref b18), .val (.ref b22), .val (.int y10), .val .null, .val (.int (0 : Int32)), .val (.int (0 : Int32))]) rfl ?_
            refine XS.iload X44.here hx rfl (hb hby at_208) rfl ?_
            refine XS.iload X44.here hx rfl (hb hby at_210) rfl ?_
            show Steps p.tables e below (T44.setTop (mkF m 212 #[.val (.int p1), .val (.int p2), .val (.int p3), .val (.int p4), .val (.int p5), .val (.ref b1), .val (.int y1), .val (.int y3), .val (.int y5), .val (.int y8), .val (.ref b18), .val (.ref b22), .val (.int y10), .val .null, .val (.int (0 : Int32)), .val (.int (0 : Int32))] [(.int (0 : Int32)), (.int (0 : Int32))])) _
            refine XS.icmpYes X44.here hx rfl (pc0 := 212) (pc' := 217) rfl (hb hby at_212) rfl (teq (rfl : (0 : Int32) = (0 : Int32))).1 (by decide) (by decide) ?_
            show Steps p.tables e below (T44.setTop (mkF m 217 #[.val (.int p1), .val (.int p2), .val (.int p3), .val (.int p4), .val (.int p5), .val (.ref b1), .val (.int y1), .val (.int y3), .val (.int y5), .val (.int y8), .val (.ref b18), .val (.ref b22), .val (.int y10), .val .null, .val (.int (0 : Int32)), .val (.int (0 : Int32))] [])) _
            refine XS.iload X44.here hx rfl (hb hby at_217) rfl ?_
            show Steps p.tables e below (T44.setTop (mkF m 219 #[.val (.int p1), .val (.int p2), .val (.int p3), .val (.int p4), .val (.int p5), .val (.ref b1), .val (.int y1), .val (.int y3), .val (.int y5), .val (.int y8), .val (.ref b18), .val (.ref b22), .val (.int y10), .val .null, .val (.int (0 : Int32)), .val (.int (0 : Int32))] [(.int y10)])) _
            refine XS.ifYes X44.here hx rfl (pc0 := 219) (pc' := 240) rfl (hb hby at_219) rfl ((if0 _ _).trans (feq hf29).2) (by decide) (by decide) ?_
            show Steps p.tables e below (T44.setTop (mkF m 240 #[.val (.int p1), .val (.int p2), .val (.int p3), .val (.int p4), .val (.int p5), .val (.ref b1), .val (.int y1), .val (.int y3), .val (.int y5), .val (.int y8), .val (.ref b18), .val (.ref b22), .val (.int y10), .val .null, .val (.int (0 : Int32)), .val (.int (0 : Int32))] [])) _
            refine XS.iconst X44.here hx rfl (hb hby at_240) ?_
            show Steps p.tables e below (T44.setTop (mkF m 241 #[.val (.int p1), .val (.int p2), .val (.int p3), .val (.int p4), .val (.int p5), .val (.ref b1), .val (.int y1), .val (.int y3), .val (.int y5), .val (.int y8), .val (.ref b18), .val (.ref b22), .val (.int y10), .val .null, .val (.int (0 : Int32)), .val (.int (0 : Int32))] [(.int (1 : Int32))])) _
            exact retN X44 hx (t := .boolean) Bd.returns (by simp) (hb hby at_241) hr
          · have pre46 : ∀ t, Steps p.tables e below (T28.setTop (mkF m 176 #[.val (.int p1), .val (.int p2), .val (.int p3), .val (.int p4), .val (.int p5), .val (.ref b1), .val (.int y1), .val (.int y3), .val (.int y5), .val (.int y8), .val (.ref b18), .val (.ref b22), .val (.int y10), .unset, .unset, .unset] [(.int (2 : Int32)), (.int y10)])) t → Steps p.tables e below (s₁.setTop (entryFrame m #[(.int p1), (.int p2), (.int p3), (.int p4), (.int p5)] maxLocals)) t := by
              intro t kt
              refine pre43 _ ?_
              show Steps p.tables e below (T28.setTop (mkF m 161 #[.val (.int p1), .val (.int p2), .val (.int p3), .val (.int p4), .val (.int p5), .val (.ref b1), .val (.int y1), .val (.int y3), .val (.int y5), .val (.int y8), .val (.ref b18), .val (.ref b22), .val (.int y10), .unset, .unset, .unset] [(.int (1 : Int32)), (.int y10)])) _
              refine XS.icmpYes X28.here hx rfl (pc0 := 161) (pc' := 173) rfl (hb hby at_161) rfl (feq hf43).2 (by decide) (by decide) ?_
              show Steps p.tables e below (T28.setTop (mkF m 173 #[.val (.int p1), .val (.int p2), .val (.int p3), .val (.int p4), .val (.int p5), .val (.ref b1), .val (.int y1), .val (.int y3), .val (.int y5), .val (.int y8), .val (.ref b18), .val (.ref b22), .val (.int y10), .unset, .unset, .unset] [])) _
              refine XS.iload X28.here hx rfl (hb hby at_173) rfl ?_
              refine XS.iconst X28.here hx rfl (hb hby at_175) ?_
              exact kt
            by_cases hf46 : y10 = (2 : Int32)
            · have pre47 : ∀ t, Steps p.tables e below (T28.setTop (mkF m 181 #[.val (.int p1), .val (.int p2), .val (.int p3), .val (.int p4), .val (.int p5), .val (.ref b1), .val (.int y1), .val (.int y3), .val (.int y5), .val (.int y8), .val (.ref b18), .val (.ref b22), .val (.int y10), .unset, .unset, .unset] [(.int y5)])) t → Steps p.tables e below (s₁.setTop (entryFrame m #[(.int p1), (.int p2), (.int p3), (.int p4), (.int p5)] maxLocals)) t := by
                intro t kt
                refine pre46 _ ?_
                show Steps p.tables e below (T28.setTop (mkF m 176 #[.val (.int p1), .val (.int p2), .val (.int p3), .val (.int p4), .val (.int p5), .val (.ref b1), .val (.int y1), .val (.int y3), .val (.int y5), .val (.int y8), .val (.ref b18), .val (.ref b22), .val (.int y10), .unset, .unset, .unset] [(.int (2 : Int32)), (.int y10)])) _
                refine XS.icmpNo X28.here hx rfl (hb hby at_176) rfl (teq hf46).2 ?_
                show Steps p.tables e below (T28.setTop (mkF m 179 #[.val (.int p1), .val (.int p2), .val (.int p3), .val (.int p4), .val (.int p5), .val (.ref b1), .val (.int y1), .val (.int y3), .val (.int y5), .val (.int y8), .val (.ref b18), .val (.ref b22), .val (.int y10), .unset, .unset, .unset] [])) _
                refine XS.iload X28.here hx rfl (hb hby at_179) rfl ?_
                exact kt
              by_cases hf47 : (127 : Int32) < y5
              · obtain ⟨_, _, ⟨T48, L48, k48, n48⟩, -, X48, ⟨Lc48, hQ48, l48, y48, z48⟩, st48⟩ := Jvm.LawKit.callS X28 hx (y := (⟨"java/lang/Integer", "valueOf", "(I)Ljava/lang/Integer;"⟩ : MethodName)) hown28 (mvT hZ28 (wd49 hw)) (mvT hZ28 (wd50 hw)) (mvT hZ28 (wd51 hw)) (mvT hZ28 (wd52 hw)) (by decide) (backOf (W := 0) (rm6_0 l Z a0 hw [] y5 T28.heap n0 OL28 pr26 pr27 hf47) hZ28 (wd52 hw) (wd51 hw) (by decide) (by decide)) (g := (mkF m 181 #[.val (.int p1), .val (.int p2), .val (.int p3), .val (.int p4), .val (.int p5), .val (.ref b1), .val (.int y1), .val (.int y3), .val (.int y5), .val (.int y8), .val (.ref b18), .val (.ref b22), .val (.int y10), .unset, .unset, .unset] [(.int y5)])) rfl (by rw [hml]; rfl) (argsL := [(.int y5)]) (rest := []) (lenOf pd_6 rfl) rfl (by show 2 * 0 + _ ≤ _; exact Nat.le_of_eq rfl) (hb hby at_181) (fun _ _ => ⟨rfl, rfl, (by decide : 7 + 1 ≤ _), (by decide : 48 + 1 ≤ _)⟩)
                dsimp only [Pt.U, Pt.locs, Pt.cells, Pt.slots] at X48 l48 y48 z48 st48 hQ48
                subst l48 y48 z48
                obtain ⟨b48_0, rfl, Nq48, K48, u48_0, u48_1, u48_2⟩ := hQ48
                have KK48 : Keep h0 T48.heap [] := KK28.trans K48 all0
                have OL48 := OL28.keep K48 all0
                have g_b48_0 : n0 ≤ b48_0 := Nat.le_trans (Nat.le_trans (Nat.le_of_eq OL28.1.symm) OL28.2.1) u48_0
                have sz_b48_0 : h0.size ≤ b48_0 := Nat.le_trans KK28.1 u48_0
                have N48 := Fr.app N28 Nq48
                have fc50 := ((((A18.keep K21).ext E22).keep K28).keep K48)
                obtain ⟨cq49, kq49, q49a, q49b, q49c⟩ := isOf hZ28 rfl fc50
                obtain ⟨_, _, ⟨T49, L49, k49, n49⟩, -, X49, ⟨Lc49, hQ49, l49, y49, z49⟩, st49⟩ := X48.virtualBack hx (y := (⟨"com/example/larch/larch/model/Interval", "equals", "(Ljava/lang/Object;)Z"⟩ : MethodName)) (z := (⟨"com/example/larch/larch/model/Interval", "equals", "(Ljava/lang/Object;)Z"⟩ : MethodName)) hown28 (mvT hZ28 (wd42 hw)) (mvT hZ28 (wd43 hw)) (notFace_of_selects (args := #[]) (mvT hZ28 (wd45 hw))) (mvT hZ28 (wd45 hw)) (mvT hZ28 (wd44 hw)) (by decide) (backOf (W := 0) (rm5_3 l Z a0 hw [] b18 b48_0 T48.heap n0 OL48 u48_1) hZ28 (wd46 hw) (wd19 hw) (by decide) (by decide)) q49a q49c (g := (mkF m 203 #[.val (.int p1), .val (.int p2), .val (.int p3), .val (.int p4), .val (.int p5), .val (.ref b1), .val (.int y1), .val (.int y3), .val (.int y5), .val (.int y8), .val (.ref b18), .val (.ref b22), .val (.int y10), .val (.ref b48_0), .val (.int (0 : Int32)), .unset] [(.ref b48_0), (.ref b18)])) rfl (by rw [hml]; rfl) (Steps.refl _) (argsL := [(.ref b48_0)]) (rest := []) (lenOf pd_3 rfl) rfl (by show 2 * 0 + _ ≤ _; exact Nat.le_of_eq rfl) (hb hby at_203) (fun _ _ => ⟨rfl, rfl, (by decide : 8 + 0 ≤ _), (by decide : 49 + 0 ≤ _)⟩)
                dsimp only [Pt.U, Pt.locs, Pt.cells, Pt.slots] at X49 l49 y49 z49 st49 hQ49
                subst l49 y49 z49
                obtain ⟨rfl, Nq49, ec49⟩ := hQ49
                have N49 := Fr.app N48 Nq49
                obtain ⟨fs, hr, hrun, hended, hRW⟩ := X49.leaveW (s := s) hS28 (by rw [ec49]; exact (Nat.le_trans (Nat.le_refl _) K48.1)) (v := some (.int (1 : Int32))) (fun h => by rw [Bd.returns] at h; cases h)
                refine ⟨_, _, pre47 _ ?_, hrun, hended, _, _, rfl, ⟨rfl, N49⟩, hRW.1, hRW.2.1, hRW.2.2.1, hRW.2.2.2.mono (by decide) (by decide)⟩
                show Steps p.tables e below (T28.setTop (mkF m 181 #[.val (.int p1), .val (.int p2), .val (.int p3), .val (.int p4), .val (.int p5), .val (.ref b1), .val (.int y1), .val (.int y3), .val (.int y5), .val (.int y8), .val (.ref b18), .val (.ref b22), .val (.int y10), .unset, .unset, .unset] [(.int y5)])) _
                refine st48 _ ?_
                show Steps p.tables e below (T48.setTop (mkF m 184 #[.val (.int p1), .val (.int p2), .val (.int p3), .val (.int p4), .val (.int p5), .val (.ref b1), .val (.int y1), .val (.int y3), .val (.int y5), .val (.int y8), .val (.ref b18), .val (.ref b22), .val (.int y10), .unset, .unset, .unset] [(.ref b48_0)])) _
                refine XS.astore X48.here hx rfl (hb hby at_184) rfl rfl (l' := #[.val (.int p1), .val (.int p2), .val (.int p3), .val (.int p4), .val (.int p5), .val (.ref b1), .val (.int y1), .val (.int y3), .val (.int y5), .val (.int y8), .val (.ref b18), .val (.ref b22), .val (.int y10), .val (.ref b48_0), .unset, .unset]) rfl ?_
                refine XS.iconst X48.here hx rfl (hb hby at_186) ?_
                refine XS.istore X48.here hx rfl (hb hby at_187) rfl (l' := #[.val (.int p1), .val (.int p2), .val (.int p3), .val (.int p4), .val (.int p5), .val (.ref b1), .val (.int y1), .val (.int y3), .val (.int y5), .val (.int y8), .val (.ref b18), .val (.ref b22), .val (.int y10), .val (.ref b48_0), .val (.int (0 : Int32)), .unset]) rfl ?_
                refine XS.goto X48.here hx rfl (pc0 := 189) (pc' := 199) rfl (hb hby at_189) (by decide) (by decide) ?_
                show Steps p.tables e below (T48.setTop (mkF m 199 #[.val (.int p1), .val (.int p2), .val (.int p3), .val (.int p4), .val (.int p5), .val (.ref b1), .val (.int y1), .val (.int y3), .val (.int y5), .val (.int y8), .val (.ref b18), .val (.ref b22), .val (.int y10), .val (.ref b48_0), .val (.int (0 : Int32)), .unset] [])) _
                refine XS.aload X48.here hx rfl (hb hby at_199) rfl rfl ?_
                refine XS.aload X48.here hx rfl (hb hby at_201) rfl rfl ?_
                show Steps p.tables e below (T48.setTop (mkF m 203 #[.val (.int p1), .val (.int p2), .val (.int p3), .val (.int p4), .val (.int p5), .val (.ref b1), .val (.int y1), .val (.int y3), .val (.int y5), .val (.int y8), .val (.ref b18), .val (.ref b22), .val (.int y10), .val (.ref b48_0), .val (.int (0 : Int32)), .unset] [(.ref b48_0), (.ref b18)])) _
                refine st49.trans ?_
                show Steps p.tables e below (T49.setTop (mkF m 206 #[.val (.int p1), .val (.int p2), .val (.int p3), .val (.int p4), .val (.int p5), .val (.ref b1), .val (.int y1), .val (.int y3), .val (.int y5), .val (.int y8), .val (.ref b18), .val (.ref b22), .val (.int y10), .val (.ref b48_0), .val (.int (0 : Int32)), .unset] [(.int (0 : Int32))])) _
                refine XS.istore X49.here hx rfl (hb hby at_206) rfl (l' := #[.val (.int p1), .val (.int p2), .val (.int p3), .val (.int p4), .val (.int p5), .val (.ref b1), .val (.int y1), .val (.int y3), .val (.int y5), .val (.int y8), .val (.ref b18), .val (.ref b22), .val (.int y10), .val (.ref b48_0), .val (.int (0 : Int32)), .val (.int (0 : Int32))]) rfl ?_
                refine XS.iload X49.here hx rfl (hb hby at_208) rfl ?_
                refine XS.iload X49.here hx rfl (hb hby at_210) rfl ?_
                show Steps p.tables e below (T49.setTop (mkF m 212 #[.val (.int p1), .val (.int p2), .val (.int p3), .val (.int p4), .val (.int p5), .val (.ref b1), .val (.int y1), .val (.int y3), .val (.int y5), .val (.int y8), .val (.ref b18), .val (.ref b22), .val (.int y10), .val (.ref b48_0), .val (.int (0 : Int32)), .val (.int (0 : Int32))] [(.int (0 : Int32)), (.int (0 : Int32))])) _
                refine XS.icmpYes X49.here hx rfl (pc0 := 212) (pc' := 217) rfl (hb hby at_212) rfl (teq (rfl : (0 : Int32) = (0 : Int32))).1 (by decide) (by decide) ?_
                show Steps p.tables e below (T49.setTop (mkF m 217 #[.val (.int p1), .val (.int p2), .val (.int p3), .val (.int p4), .val (.int p5), .val (.ref b1), .val (.int y1), .val (.int y3), .val (.int y5), .val (.int y8), .val (.ref b18), .val (.ref b22), .val (.int y10), .val (.ref b48_0), .val (.int (0 : Int32)), .val (.int (0 : Int32))] [])) _
                refine XS.iload X49.here hx rfl (hb hby at_217) rfl ?_
                show Steps p.tables e below (T49.setTop (mkF m 219 #[.val (.int p1), .val (.int p2), .val (.int p3), .val (.int p4), .val (.int p5), .val (.ref b1), .val (.int y1), .val (.int y3), .val (.int y5), .val (.int y8), .val (.ref b18), .val (.ref b22), .val (.int y10), .val (.ref b48_0), .val (.int (0 : Int32)), .val (.int (0 : Int32))] [(.int y10)])) _
                refine XS.ifYes X49.here hx rfl (pc0 := 219) (pc' := 240) rfl (hb hby at_219) rfl ((if0 _ _).trans (feq hf29).2) (by decide) (by decide) ?_
                show Steps p.tables e below (T49.setTop (mkF m 240 #[.val (.int p1), .val (.int p2), .val (.int p3), .val (.int p4), .val (.int p5), .val (.ref b1), .val (.int y1), .val (.int y3), .val (.int y5), .val (.int y8), .val (.ref b18), .val (.ref b22), .val (.int y10), .val (.ref b48_0), .val (.int (0 : Int32)), .val (.int (0 : Int32))] [])) _
                refine XS.iconst X49.here hx rfl (hb hby at_240) ?_
                show Steps p.tables e below (T49.setTop (mkF m 241 #[.val (.int p1), .val (.int p2), .val (.int p3), .val (.int p4), .val (.int p5), .val (.ref b1), .val (.int y1), .val (.int y3), .val (.int y5), .val (.int y8), .val (.ref b18), .val (.ref b22), .val (.int y10), .val (.ref b48_0), .val (.int (0 : Int32)), .val (.int (0 : Int32))] [(.int (1 : Int32))])) _
                exact retN X49 hx (t := .boolean) Bd.returns (by simp) (hb hby at_241) hr
              · obtain ⟨cx51, bx51⟩ := id pr28
                obtain ⟨wc1, at51, Ea51, Fa51⟩ := own_box bx51 (j := (y5 + (128 : Int32))) (own_inbox pr26 hf47).1 (own_inbox pr26 hf47).2
                simp only [own_addsub] at Fa51
                obtain ⟨_, _, ⟨T52, L52, k52, n52⟩, -, X52, ⟨Lc52, hQ52, l52, y52, z52⟩, st52⟩ := Jvm.LawKit.callS X28 hx (y := (⟨"java/lang/Integer", "valueOf", "(I)Ljava/lang/Integer;"⟩ : MethodName)) hown28 (mvT hZ28 (wd49 hw)) (mvT hZ28 (wd50 hw)) (mvT hZ28 (wd51 hw)) (mvT hZ28 (wd52 hw)) (by decide) (backOf (W := 0) (rm6_1 l Z a0 hw [] y5 w_cache wc1 T28.heap n0 OL28 pr26 pr27 hf47 pr29 at51) hZ28 (wd52 hw) (wd51 hw) (by decide) (by decide)) (g := (mkF m 181 #[.val (.int p1), .val (.int p2), .val (.int p3), .val (.int p4), .val (.int p5), .val (.ref b1), .val (.int y1), .val (.int y3), .val (.int y5), .val (.int y8), .val (.ref b18), .val (.ref b22), .val (.int y10), .unset, .unset, .unset] [(.int y5)])) rfl (by rw [hml]; rfl) (argsL := [(.int y5)]) (rest := []) (lenOf pd_6 rfl) rfl (by show 2 * 0 + _ ≤ _; exact Nat.le_of_eq rfl) (hb hby at_181) (fun _ _ => ⟨rfl, rfl, (by decide : 7 + 0 ≤ _), (by decide : 48 + 0 ≤ _)⟩)
                dsimp only [Pt.U, Pt.locs, Pt.cells, Pt.slots] at X52 l52 y52 z52 st52 hQ52
                subst l52 y52 z52
                obtain ⟨rfl, Nq52, ec52⟩ := hQ52
                have N52 := Fr.app N28 Nq52
                have fc54 := (((A18.keep K21).ext E22).keep K28)
                obtain ⟨cq53, kq53, q53a, q53b, q53c⟩ := isOf hZ28 ec52 fc54
                obtain ⟨_, _, ⟨T53, L53, k53, n53⟩, -, X53, ⟨Lc53, hQ53, l53, y53, z53⟩, st53⟩ := X52.virtualBack hx (y := (⟨"com/example/larch/larch/model/Interval", "equals", "(Ljava/lang/Object;)Z"⟩ : MethodName)) (z := (⟨"com/example/larch/larch/model/Interval", "equals", "(Ljava/lang/Object;)Z"⟩ : MethodName)) hown28 (mvT hZ28 (wd42 hw)) (mvT hZ28 (wd43 hw)) (notFace_of_selects (args := #[]) (mvT hZ28 (wd45 hw))) (mvT hZ28 (wd45 hw)) (mvT hZ28 (wd44 hw)) (by decide) (backOf (W := 0) (rm5_4 l Z a0 hw [] b18 wc1 T28.heap n0 OL28 Ea51) hZ28 (wd46 hw) (wd19 hw) (by decide) (by decide)) q53a q53c (g := (mkF m 203 #[.val (.int p1), .val (.int p2), .val (.int p3), .val (.int p4), .val (.int p5), .val (.ref b1), .val (.int y1), .val (.int y3), .val (.int y5), .val (.int y8), .val (.ref b18), .val (.ref b22), .val (.int y10), .val (.ref wc1), .val (.int (0 : Int32)), .unset] [(.ref wc1), (.ref b18)])) rfl (by rw [hml]; rfl) (Steps.refl _) (argsL := [(.ref wc1)]) (rest := []) (lenOf pd_3 rfl) rfl (by show 2 * 0 + _ ≤ _; exact Nat.le_of_eq rfl) (hb hby at_203) (fun _ _ => ⟨rfl, ec52, (by decide : 7 + 0 ≤ _), (by decide : 48 + 0 ≤ _)⟩)
                dsimp only [Pt.U, Pt.locs, Pt.cells, Pt.slots] at X53 l53 y53 z53 st53 hQ53
                subst l53 y53 z53
                obtain ⟨rfl, Nq53, ec53⟩ := hQ53
                have N53 := Fr.app N52 Nq53
                obtain ⟨fs, hr, hrun, hended, hRW⟩ := X53.leaveW (s := s) hS28 (by rw [ec53]; exact (Nat.le_refl _)) (v := some (.int (1 : Int32))) (fun h => by rw [Bd.returns] at h; cases h)
                refine ⟨_, _, pre47 _ ?_, hrun, hended, _, _, rfl, ⟨rfl, N53⟩, hRW.1, hRW.2.1, hRW.2.2.1, hRW.2.2.2.mono (by decide) (by decide)⟩
                show Steps p.tables e below (T28.setTop (mkF m 181 #[.val (.int p1), .val (.int p2), .val (.int p3), .val (.int p4), .val (.int p5), .val (.ref b1), .val (.int y1), .val (.int y3), .val (.int y5), .val (.int y8), .val (.ref b18), .val (.ref b22), .val (.int y10), .unset, .unset, .unset] [(.int y5)])) _
                refine st52 _ ?_
                show Steps p.tables e below (T52.setTop (mkF m 184 #[.val (.int p1), .val (.int p2), .val (.int p3), .val (.int p4), .val (.int p5), .val (.ref b1), .val (.int y1), .val (.int y3), .val (.int y5), .val (.int y8), .val (.ref b18), .val (.ref b22), .val (.int y10), .unset, .unset, .unset] [(.ref wc1)])) _
                refine XS.astore X52.here hx rfl (hb hby at_184) rfl rfl (l' := #[.val (.int p1), .val (.int p2), .val (.int p3), .val (.int p4), .val (.int p5), .val (.ref b1), .val (.int y1), .val (.int y3), .val (.int y5), .val (.int y8), .val (.ref b18), .val (.ref b22), .val (.int y10), .val (.ref wc1), .unset, .unset]) rfl ?_
                refine XS.iconst X52.here hx rfl (hb hby at_186) ?_
                refine XS.istore X52.here hx rfl (hb hby at_187) rfl (l' := #[.val (.int p1), .val (.int p2), .val (.int p3), .val (.int p4), .val (.int p5), .val (.ref b1), .val (.int y1), .val (.int y3), .val (.int y5), .val (.int y8), .val (.ref b18), .val (.ref b22), .val (.int y10), .val (.ref wc1), .val (.int (0 : Int32)), .unset]) rfl ?_
                refine XS.goto X52.here hx rfl (pc0 := 189) (pc' := 199) rfl (hb hby at_189) (by decide) (by decide) ?_
                show Steps p.tables e below (T52.setTop (mkF m 199 #[.val (.int p1), .val (.int p2), .val (.int p3), .val (.int p4), .val (.int p5), .val (.ref b1), .val (.int y1), .val (.int y3), .val (.int y5), .val (.int y8), .val (.ref b18), .val (.ref b22), .val (.int y10), .val (.ref wc1), .val (.int (0 : Int32)), .unset] [])) _
                refine XS.aload X52.here hx rfl (hb hby at_199) rfl rfl ?_
                refine XS.aload X52.here hx rfl (hb hby at_201) rfl rfl ?_
                show Steps p.tables e below (T52.setTop (mkF m 203 #[.val (.int p1), .val (.int p2), .val (.int p3), .val (.int p4), .val (.int p5), .val (.ref b1), .val (.int y1), .val (.int y3), .val (.int y5), .val (.int y8), .val (.ref b18), .val (.ref b22), .val (.int y10), .val (.ref wc1), .val (.int (0 : Int32)), .unset] [(.ref wc1), (.ref b18)])) _
                refine st53.trans ?_
                show Steps p.tables e below (T53.setTop (mkF m 206 #[.val (.int p1), .val (.int p2), .val (.int p3), .val (.int p4), .val (.int p5), .val (.ref b1), .val (.int y1), .val (.int y3), .val (.int y5), .val (.int y8), .val (.ref b18), .val (.ref b22), .val (.int y10), .val (.ref wc1), .val (.int (0 : Int32)), .unset] [(.int (0 : Int32))])) _
                refine XS.istore X53.here hx rfl (hb hby at_206) rfl (l' := #[.val (.int p1), .val (.int p2), .val (.int p3), .val (.int p4), .val (.int p5), .val (.ref b1), .val (.int y1), .val (.int y3), .val (.int y5), .val (.int y8), .val (.ref b18), .val (.ref b22), .val (.int y10), .val (.ref wc1), .val (.int (0 : Int32)), .val (.int (0 : Int32))]) rfl ?_
                refine XS.iload X53.here hx rfl (hb hby at_208) rfl ?_
                refine XS.iload X53.here hx rfl (hb hby at_210) rfl ?_
                show Steps p.tables e below (T53.setTop (mkF m 212 #[.val (.int p1), .val (.int p2), .val (.int p3), .val (.int p4), .val (.int p5), .val (.ref b1), .val (.int y1), .val (.int y3), .val (.int y5), .val (.int y8), .val (.ref b18), .val (.ref b22), .val (.int y10), .val (.ref wc1), .val (.int (0 : Int32)), .val (.int (0 : Int32))] [(.int (0 : Int32)), (.int (0 : Int32))])) _
                refine XS.icmpYes X53.here hx rfl (pc0 := 212) (pc' := 217) rfl (hb hby at_212) rfl (teq (rfl : (0 : Int32) = (0 : Int32))).1 (by decide) (by decide) ?_
                show Steps p.tables e below (T53.setTop (mkF m 217 #[.val (.int p1), .val (.int p2), .val (.int p3), .val (.int p4), .val (.int p5), .val (.ref b1), .val (.int y1), .val (.int y3), .val (.int y5), .val (.int y8), .val (.ref b18), .val (.ref b22), .val (.int y10), .val (.ref wc1), .val (.int (0 : Int32)), .val (.int (0 : Int32))] [])) _
                refine XS.iload X53.here hx rfl (hb hby at_217) rfl ?_
                show Steps p.tables e below (T53.setTop (mkF m 219 #[.val (.int p1), .val (.int p2), .val (.int p3), .val (.int p4), .val (.int p5), .val (.ref b1), .val (.int y1), .val (.int y3), .val (.int y5), .val (.int y8), .val (.ref b18), .val (.ref b22), .val (.int y10), .val (.ref wc1), .val (.int (0 : Int32)), .val (.int (0 : Int32))] [(.int y10)])) _
                refine XS.ifYes X53.here hx rfl (pc0 := 219) (pc' := 240) rfl (hb hby at_219) rfl ((if0 _ _).trans (feq hf29).2) (by decide) (by decide) ?_
                show Steps p.tables e below (T53.setTop (mkF m 240 #[.val (.int p1), .val (.int p2), .val (.int p3), .val (.int p4), .val (.int p5), .val (.ref b1), .val (.int y1), .val (.int y3), .val (.int y5), .val (.int y8), .val (.ref b18), .val (.ref b22), .val (.int y10), .val (.ref wc1), .val (.int (0 : Int32)), .val (.int (0 : Int32))] [])) _
                refine XS.iconst X53.here hx rfl (hb hby at_240) ?_
                show Steps p.tables e below (T53.setTop (mkF m 241 #[.val (.int p1), .val (.int p2), .val (.int p3), .val (.int p4), .val (.int p5), .val (.ref b1), .val (.int y1), .val (.int y3), .val (.int y5), .val (.int y8), .val (.ref b18), .val (.ref b22), .val (.int y10), .val (.ref wc1), .val (.int (0 : Int32)), .val (.int (0 : Int32))] [(.int (1 : Int32))])) _
                exact retN X53 hx (t := .boolean) Bd.returns (by simp) (hb hby at_241) hr
            · have fc56 := (((A18.keep K21).ext E22).keep K28)
              have fc57 := ((u21_0.ext E22).keep K28 (ninS (Nat.ne_of_lt (Nat.lt_of_lt_of_le u21_1.lt (Nat.le_of_eq g22.symm))) nin0))
              have fc58 := ((u21_1.ext E22).keep K28 (ninS (Nat.ne_of_lt (Nat.lt_of_lt_of_le u21_1.lt (Nat.le_of_eq g22.symm))) nin0))
              obtain ⟨cq55, kq55, q55a, q55b, q55c⟩ := isOf hZ28 rfl fc56
              obtain ⟨_, _, ⟨T55, L55, k55, n55⟩, -, X55, ⟨Lc55, hQ55, l55, y55, z55⟩, st55⟩ := X28.virtualBack hx (y := (⟨"com/example/larch/larch/model/Interval", "equals", "(Ljava/lang/Object;)Z"⟩ : MethodName)) (z := (⟨"com/example/larch/larch/model/Interval", "equals", "(Ljava/lang/Object;)Z"⟩ : MethodName)) hown28 (mvT hZ28 (wd42 hw)) (mvT hZ28 (wd43 hw)) (notFace_of_selects (args := #[]) (mvT hZ28 (wd45 hw))) (mvT hZ28 (wd45 hw)) (mvT hZ28 (wd44 hw)) (by decide) (backOf (W := 0) (rm5_5 l Z a0 hw [] b18 v1 y5 T28.heap n0 OL28 fc56 fc57 fc58) hZ28 (wd46 hw) (wd19 hw) (by decide) (by decide)) q55a q55c (g := (mkF m 203 #[.val (.int p1), .val (.int p2), .val (.int p3), .val (.int p4), .val (.int p5), .val (.ref b1), .val (.int y1), .val (.int y3), .val (.int y5), .val (.int y8), .val (.ref b18), .val (.ref b22), .val (.int y10), .val (.ref b18), .val (.int (1 : Int32)), .unset] [(.ref b18), (.ref b18)])) rfl (by rw [hml]; rfl) (Steps.refl _) (argsL := [(.ref b18)]) (rest := []) (lenOf pd_3 rfl) rfl (by show 2 * 0 + _ ≤ _; exact Nat.le_of_eq rfl) (hb hby at_203) (fun _ _ => ⟨rfl, rfl, (by decide : 7 + 0 ≤ _), (by decide : 48 + 0 ≤ _)⟩)
              dsimp only [Pt.U, Pt.locs, Pt.cells, Pt.slots] at X55 l55 y55 z55 st55 hQ55
              subst l55 y55 z55
              obtain ⟨rfl, Nq55, ec55⟩ := hQ55
              have N55 := Fr.app N28 Nq55
              obtain ⟨fs, hr, hrun, hended, hRW⟩ := X55.leaveW (s := s) hS28 (by rw [ec55]; exact (Nat.le_refl _)) (v := some (.int (1 : Int32))) (fun h => by rw [Bd.returns] at h; cases h)
              refine ⟨_, _, pre46 _ ?_, hrun, hended, _, _, rfl, ⟨rfl, N55⟩, hRW.1, hRW.2.1, hRW.2.2.1, hRW.2.2.2.mono (by decide) (by decide)⟩
              show Steps p.tables e below (T28.setTop (mkF m 176 #[.val (.int p1), .val (.int p2), .val (.int p3), .val (.int p4), .val (.int p5), .val (.ref b1), .val (.int y1), .val (.int y3), .val (.int y5), .val (.int y8), .val (.ref b18), .val (.ref b22), .val (.int y10), .unset, .unset, .unset] [(.int (2 : Int32)), (.int y10)])) _
              refine XS.icmpYes X28.here hx rfl (pc0 := 176) (pc' := 192) rfl (hb hby at_176) rfl (feq hf46).2 (by decide) (by decide) ?_
              show Steps p.tables e below (T28.setTop (mkF m 192 #[.val (.int p1), .val (.int p2), .val (.int p3), .val (.int p4), .val (.int p5), .val (.ref b1), .val (.int y1), .val (.int y3), .val (.int y5), .val (.int y8), .val (.ref b18), .val (.ref b22), .val (.int y10), .unset, .unset, .unset] [])) _
              refine XS.aload X28.here hx rfl (hb hby at_192) rfl rfl ?_
              refine XS.astore X28.here hx rfl (hb hby at_194) rfl rfl (l' := #[.val (.int p1), .val (.int p2), .val (.int p3), .val (.int p4), .val (.int p5), .val (.ref b1), .val (.int y1), .val (.int y3), .val (.int y5), .val (.int y8), .val (.ref b18), .val (.ref b22), .val (.int y10), .val (.ref b18), .unset, .unset]) rfl ?_
              refine XS.iconst X28.here hx rfl (hb hby at_196) ?_
              refine XS.istore X28.here hx rfl (hb hby at_197) rfl (l' := #[.val (.int p1), .val (.int p2), .val (.int p3), .val (.int p4), .val (.int p5), .val (.ref b1), .val (.int y1), .val (.int y3), .val (.int y5), .val (.int y8), .val (.ref b18), .val (.ref b22), .val (.int y10), .val (.ref b18), .val (.int (1 : Int32)), .unset]) rfl ?_
              show Steps p.tables e below (T28.setTop (mkF m 199 #[.val (.int p1), .val (.int p2), .val (.int p3), .val (.int p4), .val (.int p5), .val (.ref b1), .val (.int y1), .val (.int y3), .val (.int y5), .val (.int y8), .val (.ref b18), .val (.ref b22), .val (.int y10), .val (.ref b18), .val (.int (1 : Int32)), .unset] [])) _
              refine XS.aload X28.here hx rfl (hb hby at_199) rfl rfl ?_
              refine XS.aload X28.here hx rfl (hb hby at_201) rfl rfl ?_
              show Steps p.tables e below (T28.setTop (mkF m 203 #[.val (.int p1), .val (.int p2), .val (.int p3), .val (.int p4), .val (.int p5), .val (.ref b1), .val (.int y1), .val (.int y3), .val (.int y5), .val (.int y8), .val (.ref b18), .val (.ref b22), .val (.int y10), .val (.ref b18), .val (.int (1 : Int32)), .unset] [(.ref b18), (.ref b18)])) _
              refine st55.trans ?_
              show Steps p.tables e below (T55.setTop (mkF m 206 #[.val (.int p1), .val (.int p2), .val (.int p3), .val (.int p4), .val (.int p5), .val (.ref b1), .val (.int y1), .val (.int y3), .val (.int y5), .val (.int y8), .val (.ref b18), .val (.ref b22), .val (.int y10), .val (.ref b18), .val (.int (1 : Int32)), .unset] [(.int (1 : Int32))])) _
              refine XS.istore X55.here hx rfl (hb hby at_206) rfl (l' := #[.val (.int p1), .val (.int p2), .val (.int p3), .val (.int p4), .val (.int p5), .val (.ref b1), .val (.int y1), .val (.int y3), .val (.int y5), .val (.int y8), .val (.ref b18), .val (.ref b22), .val (.int y10), .val (.ref b18), .val (.int (1 : Int32)), .val (.int (1 : Int32))]) rfl ?_
              refine XS.iload X55.here hx rfl (hb hby at_208) rfl ?_
              refine XS.iload X55.here hx rfl (hb hby at_210) rfl ?_
              show Steps p.tables e below (T55.setTop (mkF m 212 #[.val (.int p1), .val (.int p2), .val (.int p3), .val (.int p4), .val (.int p5), .val (.ref b1), .val (.int y1), .val (.int y3), .val (.int y5), .val (.int y8), .val (.ref b18), .val (.ref b22), .val (.int y10), .val (.ref b18), .val (.int (1 : Int32)), .val (.int (1 : Int32))] [(.int (1 : Int32)), (.int (1 : Int32))])) _
              refine XS.icmpYes X55.here hx rfl (pc0 := 212) (pc' := 217) rfl (hb hby at_212) rfl (teq (rfl : (1 : Int32) = (1 : Int32))).1 (by decide) (by decide) ?_
              show Steps p.tables e below (T55.setTop (mkF m 217 #[.val (.int p1), .val (.int p2), .val (.int p3), .val (.int p4), .val (.int p5), .val (.ref b1), .val (.int y1), .val (.int y3), .val (.int y5), .val (.int y8), .val (.ref b18), .val (.ref b22), .val (.int y10), .val (.ref b18), .val (.int (1 : Int32)), .val (.int (1 : Int32))] [])) _
              refine XS.iload X55.here hx rfl (hb hby at_217) rfl ?_
              show Steps p.tables e below (T55.setTop (mkF m 219 #[.val (.int p1), .val (.int p2), .val (.int p3), .val (.int p4), .val (.int p5), .val (.ref b1), .val (.int y1), .val (.int y3), .val (.int y5), .val (.int y8), .val (.ref b18), .val (.ref b22), .val (.int y10), .val (.ref b18), .val (.int (1 : Int32)), .val (.int (1 : Int32))] [(.int y10)])) _
              refine XS.ifYes X55.here hx rfl (pc0 := 219) (pc' := 240) rfl (hb hby at_219) rfl ((if0 _ _).trans (feq hf29).2) (by decide) (by decide) ?_
              show Steps p.tables e below (T55.setTop (mkF m 240 #[.val (.int p1), .val (.int p2), .val (.int p3), .val (.int p4), .val (.int p5), .val (.ref b1), .val (.int y1), .val (.int y3), .val (.int y5), .val (.int y8), .val (.ref b18), .val (.ref b22), .val (.int y10), .val (.ref b18), .val (.int (1 : Int32)), .val (.int (1 : Int32))] [])) _
              refine XS.iconst X55.here hx rfl (hb hby at_240) ?_
              show Steps p.tables e below (T55.setTop (mkF m 241 #[.val (.int p1), .val (.int p2), .val (.int p3), .val (.int p4), .val (.int p5), .val (.ref b1), .val (.int y1), .val (.int y3), .val (.int y5), .val (.int y8), .val (.ref b18), .val (.ref b22), .val (.int y10), .val (.ref b18), .val (.int (1 : Int32)), .val (.int (1 : Int32))] [(.int (1 : Int32))])) _
              exact retN X55 hx (t := .boolean) Bd.returns (by simp) (hb hby at_241) hr
      · have fc59 := ((fc19.keep K21 (ninS (Nat.ne_of_lt (Nat.lt_of_lt_of_le V13.lt (Nat.le_of_eq g18.symm))) nin0)).ext E22)
        obtain ⟨cl60, Ar60, -, S60, -, Hs60, -⟩ := id fc59
        have hin60 : ¬ (y3 < 0 ∨ cl60.slots.size ≤ (y3).toNatClampNeg) := inb_of S60 ⟨pr21, pr22⟩
        have hat60 : cl60.slots[(y3).toNatClampNeg]? = some (.ref v2) := Hs60.at hin60 pr30
        obtain ⟨_, _, ⟨T61, L61, k61, n61⟩, -, Xa61, hSi61, hgr61, ⟨Lc61, hQ61, l61, y61, z61⟩, st61⟩ := X22.specialBackS hx (y := (⟨"com/example/larch/larch/model/Interval", "<init>", "(Lcom/example/larch/larch/model/IntervalUnit;I)V"⟩ : MethodName)) rfl hown21 (mvT hZ21 (wd20 hw)) (mvT hZ21 (wd21 hw)) (mvT hZ21 (wd22 hw)) (by decide) (backOfS (W := 1) (rm2_0 l Z a0 hw [] b22 v2 y8 h22 n0 OL22 pr23 A22 F_unit_b22 g_b22 F_length_b22) hZ21 (wd22 hw) (wd19 hw) (by decide) (by decide)) (g := (mkF m 112 #[.val (.int p1), .val (.int p2), .val (.int p3), .val (.int p4), .val (.int p5), .val (.ref b1), .val (.int y1), .val (.int y3), .val (.int y5), .val (.int y8), .val (.ref b18), .unset, .unset, .unset, .unset, .unset] [(.int y8), (.ref v2), (.ref b22), (.ref b22)])) rfl (by rw [hml]; rfl) (Steps.refl _) (a := b22) (argsL := [(.ref v2), (.int y8)]) (rest := [(.ref b22)]) (lenOf pd_2 rfl) rfl (by show 2 * 0 + _ ≤ _; exact Nat.le_of_eq rfl) (hb hby at_112) (fun _ _ => ⟨rfl, e22, (by decide : 5 + 2 ≤ _), (by decide : 28 + 20 ≤ _)⟩)
        dsimp only [Pt.U, Pt.locs, Pt.cells, Pt.slots] at Xa61 l61 y61 z61 st61 hQ61 hSi61 hgr61
        subst l61 y61 z61
        obtain ⟨X61, hS61, hZ61, hown61⟩ := rebS (s := s) (vm0 := T21.vm) hS21 (n1 := T22.heap.size) (by rw [e22]; exact (Nat.le_trans (Nat.le_refl _) E22.1)) Xa61 hSi61 hgr61 hZ21 hown21
        obtain ⟨rfl, Nq61, K61, u61_0, u61_1⟩ := hQ61
        have KK61 : Keep h0 T61.heap [] := KK22.trans K61 (allS (Or.inr sz_b22) all0)
        have OL61 := OL22.keep K61 (allS g_b22 all0)
        have N61 := Fr.app N21 Nq61
        have pre62 : ∀ t, Steps p.tables e below (T61.setTop (mkF m 127 #[.val (.int p1), .val (.int p2), .val (.int p3), .val (.int p4), .val (.int p5), .val (.ref b1), .val (.int y1), .val (.int y3), .val (.int y5), .val (.int y8), .val (.ref b18), .val (.ref b22), .val (.int y10), .unset, .unset, .unset] [(.int y10)])) t → Steps p.tables e below (s₁.setTop (entryFrame m #[(.int p1), (.int p2), (.int p3), (.int p4), (.int p5)] maxLocals)) t := by
          intro t kt
          refine pre25 _ ?_
          show Steps p.tables e below (T22.setTop (mkF m 109 #[.val (.int p1), .val (.int p2), .val (.int p3), .val (.int p4), .val (.int p5), .val (.ref b1), .val (.int y1), .val (.int y3), .val (.int y5), .val (.int y8), .val (.ref b18), .unset, .unset, .unset, .unset, .unset] [(.int y3), (.ref b1), (.ref b22), (.ref b22)])) _
          refine X22.aaload hx (j := y3) (v := (.ref v2)) (by rw [e22]; exact Ar60.1) (State.isArrayOf_alike hZ21.alike Ar60.2.1) rfl Ar60.2.2 hin60 hat60 (g := (mkF m 109 #[.val (.int p1), .val (.int p2), .val (.int p3), .val (.int p4), .val (.int p5), .val (.ref b1), .val (.int y1), .val (.int y3), .val (.int y5), .val (.int y8), .val (.ref b18), .unset, .unset, .unset, .unset, .unset] [(.int y3), (.ref b1), (.ref b22), (.ref b22)])) rfl rfl (hb hby at_109) _ ?_
          show Steps p.tables e below (T22.setTop (mkF m 110 #[.val (.int p1), .val (.int p2), .val (.int p3), .val (.int p4), .val (.int p5), .val (.ref b1), .val (.int y1), .val (.int y3), .val (.int y5), .val (.int y8), .val (.ref b18), .unset, .unset, .unset, .unset, .unset] [(.ref v2), (.ref b22), (.ref b22)])) _
          refine XS.iload X22.here hx rfl (hb hby at_110) rfl ?_
          show Steps p.tables e below (T22.setTop (mkF m 112 #[.val (.int p1), .val (.int p2), .val (.int p3), .val (.int p4), .val (.int p5), .val (.ref b1), .val (.int y1), .val (.int y3), .val (.int y5), .val (.int y8), .val (.ref b18), .unset, .unset, .unset, .unset, .unset] [(.int y8), (.ref v2), (.ref b22), (.ref b22)])) _
          refine st61.trans ?_
          show Steps p.tables e below (T61.setTop (mkF m 115 #[.val (.int p1), .val (.int p2), .val (.int p3), .val (.int p4), .val (.int p5), .val (.ref b1), .val (.int y1), .val (.int y3), .val (.int y5), .val (.int y8), .val (.ref b18), .unset, .unset, .unset, .unset, .unset] [(.ref b22)])) _
          refine XS.astore X61.here hx rfl (hb hby at_115) rfl rfl (l' := #[.val (.int p1), .val (.int p2), .val (.int p3), .val (.int p4), .val (.int p5), .val (.ref b1), .val (.int y1), .val (.int y3), .val (.int y5), .val (.int y8), .val (.ref b18), .val (.ref b22), .unset, .unset, .unset, .unset]) rfl ?_
          refine XS.iload X61.here hx rfl (hb hby at_117) rfl ?_
          refine XS.iconst X61.here hx rfl (hb hby at_119) ?_
          show Steps p.tables e below (T61.setTop (mkF m 120 #[.val (.int p1), .val (.int p2), .val (.int p3), .val (.int p4), .val (.int p5), .val (.ref b1), .val (.int y1), .val (.int y3), .val (.int y5), .val (.int y8), .val (.ref b18), .val (.ref b22), .unset, .unset, .unset, .unset] [(.int (1 : Int32)), (.int p5)])) _
          refine XS.iushr X61.here hx rfl (hb hby at_120) rfl ?_
          show Steps p.tables e below (T61.setTop (mkF m 121 #[.val (.int p1), .val (.int p2), .val (.int p3), .val (.int p4), .val (.int p5), .val (.ref b1), .val (.int y1), .val (.int y3), .val (.int y5), .val (.int y8), .val (.ref b18), .val (.ref b22), .unset, .unset, .unset, .unset] [(.int ((p5.toUInt32 >>> ((1 : Int32) &&& 31).toUInt32).toInt32))])) _
          rw [pr24]
          show Steps p.tables e below (T61.setTop (mkF m 121 #[.val (.int p1), .val (.int p2), .val (.int p3), .val (.int p4), .val (.int p5), .val (.ref b1), .val (.int y1), .val (.int y3), .val (.int y5), .val (.int y8), .val (.ref b18), .val (.ref b22), .unset, .unset, .unset, .unset] [(.int y9)])) _
          refine XS.iconst X61.here hx rfl (hb hby at_121) ?_
          show Steps p.tables e below (T61.setTop (mkF m 122 #[.val (.int p1), .val (.int p2), .val (.int p3), .val (.int p4), .val (.int p5), .val (.ref b1), .val (.int y1), .val (.int y3), .val (.int y5), .val (.int y8), .val (.ref b18), .val (.ref b22), .unset, .unset, .unset, .unset] [(.int (3 : Int32)), (.int y9)])) _
          refine XS.iand X61.here hx rfl (hb hby at_122) rfl ?_
          show Steps p.tables e below (T61.setTop (mkF m 123 #[.val (.int p1), .val (.int p2), .val (.int p3), .val (.int p4), .val (.int p5), .val (.ref b1), .val (.int y1), .val (.int y3), .val (.int y5), .val (.int y8), .val (.ref b18), .val (.ref b22), .unset, .unset, .unset, .unset] [(.int (y9 &&& (3 : Int32)))])) _
          rw [pr25]
          show Steps p.tables e below (T61.setTop (mkF m 123 #[.val (.int p1), .val (.int p2), .val (.int p3), .val (.int p4), .val (.int p5), .val (.ref b1), .val (.int y1), .val (.int y3), .val (.int y5), .val (.int y8), .val (.ref b18), .val (.ref b22), .unset, .unset, .unset, .unset] [(.int y10)])) _
          refine XS.istore X61.here hx rfl (hb hby at_123) rfl (l' := #[.val (.int p1), .val (.int p2), .val (.int p3), .val (.int p4), .val (.int p5), .val (.ref b1), .val (.int y1), .val (.int y3), .val (.int y5), .val (.int y8), .val (.ref b18), .val (.ref b22), .val (.int y10), .unset, .unset, .unset]) rfl ?_
          refine XS.iload X61.here hx rfl (hb hby at_125) rfl ?_
          exact kt
        by_cases hf62 : y10 = (0 : Int32)
        · have fc64 := (A22.keep K61)
          have fc65 := ((u21_0.ext E22).keep K61 (ninS (Nat.ne_of_lt (Nat.lt_of_lt_of_le u21_1.lt (Nat.le_of_eq g22.symm))) nin0))
          have fc66 := (((A18.keep K21).ext E22).keep K61)
          obtain ⟨cq63, kq63, q63a, q63b, q63c⟩ := isOf hZ61 rfl fc66
          obtain ⟨_, _, ⟨T63, L63, k63, n63⟩, -, X63, ⟨Lc63, hQ63, l63, y63, z63⟩, st63⟩ := X61.virtualBack hx (y := (⟨"com/example/larch/larch/model/Interval", "equals", "(Ljava/lang/Object;)Z"⟩ : MethodName)) (z := (⟨"com/example/larch/larch/model/Interval", "equals", "(Ljava/lang/Object;)Z"⟩ : MethodName)) hown61 (mvT hZ61 (wd42 hw)) (mvT hZ61 (wd43 hw)) (notFace_of_selects (args := #[]) (mvT hZ61 (wd45 hw))) (mvT hZ61 (wd45 hw)) (mvT hZ61 (wd44 hw)) (by decide) (backOf (W := 0) (rm5_6 l Z a0 hw [] b18 b22 v1 v2 T61.heap n0 OL61 fc64 fc65 u61_0 (Fld.ne pr31 pr32 (fun q => hf25 (Value.int.inj q)))) hZ61 (wd46 hw) (wd19 hw) (by decide) (by decide)) q63a q63c (g := (mkF m 203 #[.val (.int p1), .val (.int p2), .val (.int p3), .val (.int p4), .val (.int p5), .val (.ref b1), .val (.int y1), .val (.int y3), .val (.int y5), .val (.int y8), .val (.ref b18), .val (.ref b22), .val (.int y10), .val (.ref b22), .val (.int (0 : Int32)), .unset] [(.ref b22), (.ref b18)])) rfl (by rw [hml]; rfl) (Steps.refl _) (argsL := [(.ref b22)]) (rest := []) (lenOf pd_3 rfl) rfl (by show 2 * 0 + _ ≤ _; exact Nat.le_of_eq rfl) (hb hby at_203) (fun _ _ => ⟨rfl, rfl, (by decide : 7 + 0 ≤ _), (by decide : 48 + 0 ≤ _)⟩)
          dsimp only [Pt.U, Pt.locs, Pt.cells, Pt.slots] at X63 l63 y63 z63 st63 hQ63
          subst l63 y63 z63
          obtain ⟨rfl, Nq63, ec63⟩ := hQ63
          have N63 := Fr.app N61 Nq63
          obtain ⟨cq67, kq67, q67a, q67b, q67c⟩ := isOf hZ61 ec63 fc64
          obtain ⟨_, _, ⟨T67, L67, k67, n67⟩, -, X67, ⟨Lc67, hQ67, l67, y67, z67⟩, st67⟩ := X63.virtualBack hx (y := (⟨"com/example/larch/larch/model/Interval", "equals", "(Ljava/lang/Object;)Z"⟩ : MethodName)) (z := (⟨"com/example/larch/larch/model/Interval", "equals", "(Ljava/lang/Object;)Z"⟩ : MethodName)) hown61 (mvT hZ61 (wd42 hw)) (mvT hZ61 (wd43 hw)) (notFace_of_selects (args := #[]) (mvT hZ61 (wd45 hw))) (mvT hZ61 (wd45 hw)) (mvT hZ61 (wd44 hw)) (by decide) (backOf (W := 0) (rm5_6 l Z a0 hw [] b22 b18 v2 v1 T61.heap n0 OL61 fc66 u61_0 fc65 (Ne.symm (Fld.ne pr31 pr32 (fun q => hf25 (Value.int.inj q))))) hZ61 (wd46 hw) (wd19 hw) (by decide) (by decide)) q67a q67c (g := (mkF m 226 #[.val (.int p1), .val (.int p2), .val (.int p3), .val (.int p4), .val (.int p5), .val (.ref b1), .val (.int y1), .val (.int y3), .val (.int y5), .val (.int y8), .val (.ref b18), .val (.ref b22), .val (.int y10), .val (.ref b22), .val (.int (0 : Int32)), .val (.int (0 : Int32))] [(.ref b18), (.ref b22)])) rfl (by rw [hml]; rfl) (Steps.refl _) (argsL := [(.ref b18)]) (rest := []) (lenOf pd_3 rfl) rfl (by show 2 * 0 + _ ≤ _; exact Nat.le_of_eq rfl) (hb hby at_226) (fun _ _ => ⟨rfl, ec63, (by decide : 7 + 0 ≤ _), (by decide : 48 + 0 ≤ _)⟩)
          dsimp only [Pt.U, Pt.locs, Pt.cells, Pt.slots] at X67 l67 y67 z67 st67 hQ67
          subst l67 y67 z67
          obtain ⟨rfl, Nq67, ec67⟩ := hQ67
          have N67 := Fr.app N63 Nq67
          obtain ⟨fs, hr, hrun, hended, hRW⟩ := X67.leaveW (s := s) hS61 (by rw [ec67]; exact (Nat.le_refl _)) (v := some (.int (1 : Int32))) (fun h => by rw [Bd.returns] at h; cases h)
          refine ⟨_, _, pre62 _ ?_, hrun, hended, _, _, rfl, ⟨rfl, N67⟩, hRW.1, hRW.2.1, hRW.2.2.1, hRW.2.2.2.mono (by decide) (by decide)⟩
          show Steps p.tables e below (T61.setTop (mkF m 127 #[.val (.int p1), .val (.int p2), .val (.int p3), .val (.int p4), .val (.int p5), .val (.ref b1), .val (.int y1), .val (.int y3), .val (.int y5), .val (.int y8), .val (.ref b18), .val (.ref b22), .val (.int y10), .unset, .unset, .unset] [(.int y10)])) _
          refine XS.ifNo X61.here hx rfl (hb hby at_127) rfl ((if0 _ _).trans (teq hf62).2) ?_
          show Steps p.tables e below (T61.setTop (mkF m 130 #[.val (.int p1), .val (.int p2), .val (.int p3), .val (.int p4), .val (.int p5), .val (.ref b1), .val (.int y1), .val (.int y3), .val (.int y5), .val (.int y8), .val (.ref b18), .val (.ref b22), .val (.int y10), .unset, .unset, .unset] [])) _
          refine XS.aload X61.here hx rfl (hb hby at_130) rfl rfl ?_
          refine XS.astore X61.here hx rfl (hb hby at_132) rfl rfl (l' := #[.val (.int p1), .val (.int p2), .val (.int p3), .val (.int p4), .val (.int p5), .val (.ref b1), .val (.int y1), .val (.int y3), .val (.int y5), .val (.int y8), .val (.ref b18), .val (.ref b22), .val (.int y10), .val (.ref b22), .unset, .unset]) rfl ?_
          refine XS.iload X61.here hx rfl (hb hby at_134) rfl ?_
          refine XS.iload X61.here hx rfl (hb hby at_136) rfl ?_
          show Steps p.tables e below (T61.setTop (mkF m 138 #[.val (.int p1), .val (.int p2), .val (.int p3), .val (.int p4), .val (.int p5), .val (.ref b1), .val (.int y1), .val (.int y3), .val (.int y5), .val (.int y8), .val (.ref b18), .val (.ref b22), .val (.int y10), .val (.ref b22), .unset, .unset] [(.int y3), (.int y1)])) _
          refine XS.icmpYes X61.here hx rfl (pc0 := 138) (pc' := 152) rfl (hb hby at_138) rfl (feq hf25).2 (by decide) (by decide) ?_
          show Steps p.tables e below (T61.setTop (mkF m 152 #[.val (.int p1), .val (.int p2), .val (.int p3), .val (.int p4), .val (.int p5), .val (.ref b1), .val (.int y1), .val (.int y3), .val (.int y5), .val (.int y8), .val (.ref b18), .val (.ref b22), .val (.int y10), .val (.ref b22), .unset, .unset] [])) _
          refine XS.iconst X61.here hx rfl (hb hby at_152) ?_
          refine XS.istore X61.here hx rfl (hb hby at_153) rfl (l' := #[.val (.int p1), .val (.int p2), .val (.int p3), .val (.int p4), .val (.int p5), .val (.ref b1), .val (.int y1), .val (.int y3), .val (.int y5), .val (.int y8), .val (.ref b18), .val (.ref b22), .val (.int y10), .val (.ref b22), .val (.int (0 : Int32)), .unset]) rfl ?_
          refine XS.goto X61.here hx rfl (pc0 := 155) (pc' := 199) rfl (hb hby at_155) (by decide) (by decide) ?_
          refine XS.aload X61.here hx rfl (hb hby at_199) rfl rfl ?_
          show Steps p.tables e below (T61.setTop (mkF m 201 #[.val (.int p1), .val (.int p2), .val (.int p3), .val (.int p4), .val (.int p5), .val (.ref b1), .val (.int y1), .val (.int y3), .val (.int y5), .val (.int y8), .val (.ref b18), .val (.ref b22), .val (.int y10), .val (.ref b22), .val (.int (0 : Int32)), .unset] [(.ref b18)])) _
          refine XS.aload X61.here hx rfl (hb hby at_201) rfl rfl ?_
          show Steps p.tables e below (T61.setTop (mkF m 203 #[.val (.int p1), .val (.int p2), .val (.int p3), .val (.int p4), .val (.int p5), .val (.ref b1), .val (.int y1), .val (.int y3), .val (.int y5), .val (.int y8), .val (.ref b18), .val (.ref b22), .val (.int y10), .val (.ref b22), .val (.int (0 : Int32)), .unset] [(.ref b22), (.ref b18)])) _
          refine st63.trans ?_
          show Steps p.tables e below (T63.setTop (mkF m 206 #[.val (.int p1), .val (.int p2), .val (.int p3), .val (.int p4), .val (.int p5), .val (.ref b1), .val (.int y1), .val (.int y3), .val (.int y5), .val (.int y8), .val (.ref b18), .val (.ref b22), .val (.int y10), .val (.ref b22), .val (.int (0 : Int32)), .unset] [(.int (0 : Int32))])) _
          refine XS.istore X63.here hx rfl (hb hby at_206) rfl (l' := #[.val (.int p1), .val (.int p2), .val (.int p3), .val (.int p4), .val (.int p5), .val (.ref b1), .val (.int y1), .val (.int y3), .val (.int y5), .val (.int y8), .val (.ref b18), .val (.ref b22), .val (.int y10), .val (.ref b22), .val (.int (0 : Int32)), .val (.int (0 : Int32))]) rfl ?_
          refine XS.iload X63.here hx rfl (hb hby at_208) rfl ?_
          refine XS.iload X63.here hx rfl (hb hby at_210) rfl ?_
          show Steps p.tables e below (T63.setTop (mkF m 212 #[.val (.int p1), .val (.int p2), .val (.int p3), .val (.int p4), .val (.int p5), .val (.ref b1), .val (.int y1), .val (.int y3), .val (.int y5), .val (.int y8), .val (.ref b18), .val (.ref b22), .val (.int y10), .val (.ref b22), .val (.int (0 : Int32)), .val (.int (0 : Int32))] [(.int (0 : Int32)), (.int (0 : Int32))])) _
          refine XS.icmpYes X63.here hx rfl (pc0 := 212) (pc' := 217) rfl (hb hby at_212) rfl (teq (rfl : (0 : Int32) = (0 : Int32))).1 (by decide) (by decide) ?_
          show Steps p.tables e below (T63.setTop (mkF m 217 #[.val (.int p1), .val (.int p2), .val (.int p3), .val (.int p4), .val (.int p5), .val (.ref b1), .val (.int y1), .val (.int y3), .val (.int y5), .val (.int y8), .val (.ref b18), .val (.ref b22), .val (.int y10), .val (.ref b22), .val (.int (0 : Int32)), .val (.int (0 : Int32))] [])) _
          refine XS.iload X63.here hx rfl (hb hby at_217) rfl ?_
          show Steps p.tables e below (T63.setTop (mkF m 219 #[.val (.int p1), .val (.int p2), .val (.int p3), .val (.int p4), .val (.int p5), .val (.ref b1), .val (.int y1), .val (.int y3), .val (.int y5), .val (.int y8), .val (.ref b18), .val (.ref b22), .val (.int y10), .val (.ref b22), .val (.int (0 : Int32)), .val (.int (0 : Int32))] [(.int y10)])) _
          refine XS.ifNo X63.here hx rfl (hb hby at_219) rfl ((if0 _ _).trans (teq hf62).2) ?_
          show Steps p.tables e below (T63.setTop (mkF m 222 #[.val (.int p1), .val (.int p2), .val (.int p3), .val (.int p4), .val (.int p5), .val (.ref b1), .val (.int y1), .val (.int y3), .val (.int y5), .val (.int y8), .val (.ref b18), .val (.ref b22), .val (.int y10), .val (.ref b22), .val (.int (0 : Int32)), .val (.int (0 : Int32))] [])) _
          refine XS.aload X63.here hx rfl (hb hby at_222) rfl rfl ?_
          refine XS.aload X63.here hx rfl (hb hby at_224) rfl rfl ?_
          show Steps p.tables e below (T63.setTop (mkF m 226 #[.val (.int p1), .val (.int p2), .val (.int p3), .val (.int p4), .val (.int p5), .val (.ref b1), .val (.int y1), .val (.int y3), .val (.int y5), .val (.int y8), .val (.ref b18), .val (.ref b22), .val (.int y10), .val (.ref b22), .val (.int (0 : Int32)), .val (.int (0 : Int32))] [(.ref b18), (.ref b22)])) _
          refine st67.trans ?_
          show Steps p.tables e below (T67.setTop (mkF m 229 #[.val (.int p1), .val (.int p2), .val (.int p3), .val (.int p4), .val (.int p5), .val (.ref b1), .val (.int y1), .val (.int y3), .val (.int y5), .val (.int y8), .val (.ref b18), .val (.ref b22), .val (.int y10), .val (.ref b22), .val (.int (0 : Int32)), .val (.int (0 : Int32))] [(.int (0 : Int32))])) _
          refine XS.iload X67.here hx rfl (hb hby at_229) rfl ?_
          show Steps p.tables e below (T67.setTop (mkF m 231 #[.val (.int p1), .val (.int p2), .val (.int p3), .val (.int p4), .val (.int p5), .val (.ref b1), .val (.int y1), .val (.int y3), .val (.int y5), .val (.int y8), .val (.ref b18), .val (.ref b22), .val (.int y10), .val (.ref b22), .val (.int (0 : Int32)), .val (.int (0 : Int32))] [(.int (0 : Int32)), (.int (0 : Int32))])) _
          refine XS.icmpNo X67.here hx rfl (hb hby at_231) rfl (teq (rfl : (0 : Int32) = (0 : Int32))).2 ?_
          show Steps p.tables e below (T67.setTop (mkF m 234 #[.val (.int p1), .val (.int p2), .val (.int p3), .val (.int p4), .val (.int p5), .val (.ref b1), .val (.int y1), .val (.int y3), .val (.int y5), .val (.int y8), .val (.ref b18), .val (.ref b22), .val (.int y10), .val (.ref b22), .val (.int (0 : Int32)), .val (.int (0 : Int32))] [])) _
          refine XS.iconst X67.here hx rfl (hb hby at_234) ?_
          refine XS.goto X67.here hx rfl (pc0 := 235) (pc' := 239) rfl (hb hby at_235) (by decide) (by decide) ?_
          show Steps p.tables e below (T67.setTop (mkF m 239 #[.val (.int p1), .val (.int p2), .val (.int p3), .val (.int p4), .val (.int p5), .val (.ref b1), .val (.int y1), .val (.int y3), .val (.int y5), .val (.int y8), .val (.ref b18), .val (.ref b22), .val (.int y10), .val (.ref b22), .val (.int (0 : Int32)), .val (.int (0 : Int32))] [(.int (1 : Int32))])) _
          exact retN X67 hx (t := .boolean) Bd.returns (by simp) (hb hby at_239) hr
        · have pre68 : ∀ t, Steps p.tables e below (T61.setTop (mkF m 161 #[.val (.int p1), .val (.int p2), .val (.int p3), .val (.int p4), .val (.int p5), .val (.ref b1), .val (.int y1), .val (.int y3), .val (.int y5), .val (.int y8), .val (.ref b18), .val (.ref b22), .val (.int y10), .unset, .unset, .unset] [(.int (1 : Int32)), (.int y10)])) t → Steps p.tables e below (s₁.setTop (entryFrame m #[(.int p1), (.int p2), (.int p3), (.int p4), (.int p5)] maxLocals)) t := by
            intro t kt
            refine pre62 _ ?_
            show Steps p.tables e below (T61.setTop (mkF m 127 #[.val (.int p1), .val (.int p2), .val (.int p3), .val (.int p4), .val (.int p5), .val (.ref b1), .val (.int y1), .val (.int y3), .val (.int y5), .val (.int y8), .val (.ref b18), .val (.ref b22), .val (.int y10), .unset, .unset, .unset] [(.int y10)])) _
            refine XS.ifYes X61.here hx rfl (pc0 := 127) (pc' := 158) rfl (hb hby at_127) rfl ((if0 _ _).trans (feq hf62).2) (by decide) (by decide) ?_
            show Steps p.tables e below (T61.setTop (mkF m 158 #[.val (.int p1), .val (.int p2), .val (.int p3), .val (.int p4), .val (.int p5), .val (.ref b1), .val (.int y1), .val (.int y3), .val (.int y5), .val (.int y8), .val (.ref b18), .val (.ref b22), .val (.int y10), .unset, .unset, .unset] [])) _
            refine XS.iload X61.here hx rfl (hb hby at_158) rfl ?_
            refine XS.iconst X61.here hx rfl (hb hby at_160) ?_
            exact kt
          by_cases hf68 : y10 = (1 : Int32)
          · have fc70 := (((A18.keep K21).ext E22).keep K61)
            obtain ⟨cq69, kq69, q69a, q69b, q69c⟩ := isOf hZ61 rfl fc70
            obtain ⟨_, _, ⟨T69, L69, k69, n69⟩, -, X69, ⟨Lc69, hQ69, l69, y69, z69⟩, st69⟩ := X61.virtualBack hx (y := (⟨"com/example/larch/larch/model/Interval", "equals", "(Ljava/lang/Object;)Z"⟩ : MethodName)) (z := (⟨"com/example/larch/larch/model/Interval", "equals", "(Ljava/lang/Object;)Z"⟩ : MethodName)) hown61 (mvT hZ61 (wd42 hw)) (mvT hZ61 (wd43 hw)) (notFace_of_selects (args := #[]) (mvT hZ61 (wd45 hw))) (mvT hZ61 (wd45 hw)) (mvT hZ61 (wd44 hw)) (by decide) (backOf (W := 0) (rm5_2 l Z a0 hw [] b18 T61.heap n0 OL61 ) hZ61 (wd46 hw) (wd19 hw) (by decide) (by decide)) q69a q69c (g := (mkF m 203 #[.val (.int p1), .val (.int p2), .val (.int p3), .val (.int p4), .val (.int p5), .val (.ref b1), .val (.int y1), .val (.int y3), .val (.int y5), .val (.int y8), .val (.ref b18), .val (.ref b22), .val (.int y10), .val .null, .val (.int (0 : Int32)), .unset] [.null, (.ref b18)])) rfl (by rw [hml]; rfl) (Steps.refl _) (argsL := [.null]) (rest := []) (lenOf pd_3 rfl) rfl (by show 2 * 0 + _ ≤ _; exact Nat.le_of_eq rfl) (hb hby at_203) (fun _ _ => ⟨rfl, rfl, (by decide : 7 + 0 ≤ _), (by decide : 48 + 0 ≤ _)⟩)
            dsimp only [Pt.U, Pt.locs, Pt.cells, Pt.slots] at X69 l69 y69 z69 st69 hQ69
            subst l69 y69 z69
            obtain ⟨rfl, Nq69, ec69⟩ := hQ69
            have N69 := Fr.app N61 Nq69
            obtain ⟨fs, hr, hrun, hended, hRW⟩ := X69.leaveW (s := s) hS61 (by rw [ec69]; exact (Nat.le_refl _)) (v := some (.int (1 : Int32))) (fun h => by rw [Bd.returns] at h; cases h)
            refine ⟨_, _, pre68 _ ?_, hrun, hended, _, _, rfl, ⟨rfl, N69⟩, hRW.1, hRW.2.1, hRW.2.2.1, hRW.2.2.2.mono (by decide) (by decide)⟩
            show Steps p.tables e below (T61.setTop (mkF m 161 #[.val (.int p1), .val (.int p2), .val (.int p3), .val (.int p4), .val (.int p5), .val (.ref b1), .val (.int y1), .val (.int y3), .val (.int y5), .val (.int y8), .val (.ref b18), .val (.ref b22), .val (.int y10), .unset, .unset, .unset] [(.int (1 : Int32)), (.int y10)])) _
            refine XS.icmpNo X61.here hx rfl (hb hby at_161) rfl (teq hf68).2 ?_
            show Steps p.tables e below (T61.setTop (mkF m 164 #[.val (.int p1), .val (.int p2), .val (.int p3), .val (.int p4), .val (.int p5), .val (.ref b1), .val (.int y1), .val (.int y3), .val (.int y5), .val (.int y8), .val (.ref b18), .val (.ref b22), .val (.int y10), .unset, .unset, .unset] [])) _
            refine XS.aconstNull X61.here hx rfl (hb hby at_164) ?_
            refine XS.astore X61.here hx rfl (hb hby at_165) rfl rfl (l' := #[.val (.int p1), .val (.int p2), .val (.int p3), .val (.int p4), .val (.int p5), .val (.ref b1), .val (.int y1), .val (.int y3), .val (.int y5), .val (.int y8), .val (.ref b18), .val (.ref b22), .val (.int y10), .val .null, .unset, .unset]) rfl ?_
            refine XS.iconst X61.here hx rfl (hb hby at_167) ?_
            refine XS.istore X61.here hx rfl (hb hby at_168) rfl (l' := #[.val (.int p1), .val (.int p2), .val (.int p3), .val (.int p4), .val (.int p5), .val (.ref b1), .val (.int y1), .val (.int y3), .val (.int y5), .val (.int y8), .val (.ref b18), .val (.ref b22), .val (.int y10), .val .null, .val (.int (0 : Int32)), .unset]) rfl ?_
            show Steps p.tables e below (T61.setTop (mkF m 170 #[.val (.int p1), .val (.int p2), .val (.int p3), .val (.int p4), .val (.int p5), .val (.ref b1), .val (.int y1), .val (.int y3), .val (.int y5), .val (.int y8), .val (.ref b18), .val (.ref b22), .val (.int y10), .val .null, .val (.int (0 : Int32)), .unset] [])) _
            refine XS.goto X61.here hx rfl (pc0 := 170) (pc' := 199) rfl (hb hby at_170) (by decide) (by decide) ?_
            refine XS.aload X61.here hx rfl (hb hby at_199) rfl rfl ?_
            refine XS.aload X61.here hx rfl (hb hby at_201) rfl rfl ?_
            show Steps p.tables e below (T61.setTop (mkF m 203 #[.val (.int p1), .val (.int p2), .val (.int p3), .val (.int p4), .val (.int p5), .val (.ref b1), .val (.int y1), .val (.int y3), .val (.int y5), .val (.int y8), .val (.ref b18), .val (.ref b22), .val (.int y10), .val .null, .val (.int (0 : Int32)), .unset] [.null, (.ref b18)])) _
            refine st69.trans ?_
            show Steps p.tables e below (T69.setTop (mkF m 206 #[.val (.int p1), .val (.int p2), .val (.int p3), .val (.int p4), .val (.int p5), .val (.ref b1), .val (.int y1), .val (.int y3), .val (.int y5), .val (.int y8), .val (.ref b18), .val (.ref b22), .val (.int y10), .val .null, .val (.int (0 : Int32)), .unset] [(.int (0 : Int32))])) _
            refine XS.istore X69.here hx rfl (hb hby at_206) rfl (l' := #[.val (.int p1), .val (.int p2), .val (.int p3), .val (.int p4), .val (.int p5), .val (.ref b1), .val (.int y1), .val (.int y3), .val (.int y5), .val (.int y8), .val (.ref b18), .val (.ref b22), .val (.int y10), .val .null, .val (.int (0 : Int32)), .val (.int (0 : Int32))]) rfl ?_
            refine XS.iload X69.here hx rfl (hb hby at_208) rfl ?_
            refine XS.iload X69.here hx rfl (hb hby at_210) rfl ?_
            show Steps p.tables e below (T69.setTop (mkF m 212 #[.val (.int p1), .val (.int p2), .val (.int p3), .val (.int p4), .val (.int p5), .val (.ref b1), .val (.int y1), .val (.int y3), .val (.int y5), .val (.int y8), .val (.ref b18), .val (.ref b22), .val (.int y10), .val .null, .val (.int (0 : Int32)), .val (.int (0 : Int32))] [(.int (0 : Int32)), (.int (0 : Int32))])) _
            refine XS.icmpYes X69.here hx rfl (pc0 := 212) (pc' := 217) rfl (hb hby at_212) rfl (teq (rfl : (0 : Int32) = (0 : Int32))).1 (by decide) (by decide) ?_
            show Steps p.tables e below (T69.setTop (mkF m 217 #[.val (.int p1), .val (.int p2), .val (.int p3), .val (.int p4), .val (.int p5), .val (.ref b1), .val (.int y1), .val (.int y3), .val (.int y5), .val (.int y8), .val (.ref b18), .val (.ref b22), .val (.int y10), .val .null, .val (.int (0 : Int32)), .val (.int (0 : Int32))] [])) _
            refine XS.iload X69.here hx rfl (hb hby at_217) rfl ?_
            show Steps p.tables e below (T69.setTop (mkF m 219 #[.val (.int p1), .val (.int p2), .val (.int p3), .val (.int p4), .val (.int p5), .val (.ref b1), .val (.int y1), .val (.int y3), .val (.int y5), .val (.int y8), .val (.ref b18), .val (.ref b22), .val (.int y10), .val .null, .val (.int (0 : Int32)), .val (.int (0 : Int32))] [(.int y10)])) _
            refine XS.ifYes X69.here hx rfl (pc0 := 219) (pc' := 240) rfl (hb hby at_219) rfl ((if0 _ _).trans (feq hf62).2) (by decide) (by decide) ?_
            show Steps p.tables e below (T69.setTop (mkF m 240 #[.val (.int p1), .val (.int p2), .val (.int p3), .val (.int p4), .val (.int p5), .val (.ref b1), .val (.int y1), .val (.int y3), .val (.int y5), .val (.int y8), .val (.ref b18), .val (.ref b22), .val (.int y10), .val .null, .val (.int (0 : Int32)), .val (.int (0 : Int32))] [])) _
            refine XS.iconst X69.here hx rfl (hb hby at_240) ?_
            show Steps p.tables e below (T69.setTop (mkF m 241 #[.val (.int p1), .val (.int p2), .val (.int p3), .val (.int p4), .val (.int p5), .val (.ref b1), .val (.int y1), .val (.int y3), .val (.int y5), .val (.int y8), .val (.ref b18), .val (.ref b22), .val (.int y10), .val .null, .val (.int (0 : Int32)), .val (.int (0 : Int32))] [(.int (1 : Int32))])) _
            exact retN X69 hx (t := .boolean) Bd.returns (by simp) (hb hby at_241) hr
          · have pre71 : ∀ t, Steps p.tables e below (T61.setTop (mkF m 176 #[.val (.int p1), .val (.int p2), .val (.int p3), .val (.int p4), .val (.int p5), .val (.ref b1), .val (.int y1), .val (.int y3), .val (.int y5), .val (.int y8), .val (.ref b18), .val (.ref b22), .val (.int y10), .unset, .unset, .unset] [(.int (2 : Int32)), (.int y10)])) t → Steps p.tables e below (s₁.setTop (entryFrame m #[(.int p1), (.int p2), (.int p3), (.int p4), (.int p5)] maxLocals)) t := by
              intro t kt
              refine pre68 _ ?_
              show Steps p.tables e below (T61.setTop (mkF m 161 #[.val (.int p1), .val (.int p2), .val (.int p3), .val (.int p4), .val (.int p5), .val (.ref b1), .val (.int y1), .val (.int y3), .val (.int y5), .val (.int y8), .val (.ref b18), .val (.ref b22), .val (.int y10), .unset, .unset, .unset] [(.int (1 : Int32)), (.int y10)])) _
              refine XS.icmpYes X61.here hx rfl (pc0 := 161) (pc' := 173) rfl (hb hby at_161) rfl (feq hf68).2 (by decide) (by decide) ?_
              show Steps p.tables e below (T61.setTop (mkF m 173 #[.val (.int p1), .val (.int p2), .val (.int p3), .val (.int p4), .val (.int p5), .val (.ref b1), .val (.int y1), .val (.int y3), .val (.int y5), .val (.int y8), .val (.ref b18), .val (.ref b22), .val (.int y10), .unset, .unset, .unset] [])) _
              refine XS.iload X61.here hx rfl (hb hby at_173) rfl ?_
              refine XS.iconst X61.here hx rfl (hb hby at_175) ?_
              exact kt
            by_cases hf71 : y10 = (2 : Int32)
            · have pre72 : ∀ t, Steps p.tables e below (T61.setTop (mkF m 181 #[.val (.int p1), .val (.int p2), .val (.int p3), .val (.int p4), .val (.int p5), .val (.ref b1), .val (.int y1), .val (.int y3), .val (.int y5), .val (.int y8), .val (.ref b18), .val (.ref b22), .val (.int y10), .unset, .unset, .unset] [(.int y5)])) t → Steps p.tables e below (s₁.setTop (entryFrame m #[(.int p1), (.int p2), (.int p3), (.int p4), (.int p5)] maxLocals)) t := by
                intro t kt
                refine pre71 _ ?_
                show Steps p.tables e below (T61.setTop (mkF m 176 #[.val (.int p1), .val (.int p2), .val (.int p3), .val (.int p4), .val (.int p5), .val (.ref b1), .val (.int y1), .val (.int y3), .val (.int y5), .val (.int y8), .val (.ref b18), .val (.ref b22), .val (.int y10), .unset, .unset, .unset] [(.int (2 : Int32)), (.int y10)])) _
                refine XS.icmpNo X61.here hx rfl (hb hby at_176) rfl (teq hf71).2 ?_
                show Steps p.tables e below (T61.setTop (mkF m 179 #[.val (.int p1), .val (.int p2), .val (.int p3), .val (.int p4), .val (.int p5), .val (.ref b1), .val (.int y1), .val (.int y3), .val (.int y5), .val (.int y8), .val (.ref b18), .val (.ref b22), .val (.int y10), .unset, .unset, .unset] [])) _
                refine XS.iload X61.here hx rfl (hb hby at_179) rfl ?_
                exact kt
              by_cases hf72 : (127 : Int32) < y5
              · obtain ⟨_, _, ⟨T73, L73, k73, n73⟩, -, X73, ⟨Lc73, hQ73, l73, y73, z73⟩, st73⟩ := Jvm.LawKit.callS X61 hx (y := (⟨"java/lang/Integer", "valueOf", "(I)Ljava/lang/Integer;"⟩ : MethodName)) hown61 (mvT hZ61 (wd49 hw)) (mvT hZ61 (wd50 hw)) (mvT hZ61 (wd51 hw)) (mvT hZ61 (wd52 hw)) (by decide) (backOf (W := 0) (rm6_0 l Z a0 hw [] y5 T61.heap n0 OL61 pr26 pr27 hf72) hZ61 (wd52 hw) (wd51 hw) (by decide) (by decide)) (g := (mkF m 181 #[.val (.int p1), .val (.int p2), .val (.int p3), .val (.int p4), .val (.int p5), .val (.ref b1), .val (.int y1), .val (.int y3), .val (.int y5), .val (.int y8), .val (.ref b18), .val (.ref b22), .val (.int y10), .unset, .unset, .unset] [(.int y5)])) rfl (by rw [hml]; rfl) (argsL := [(.int y5)]) (rest := []) (lenOf pd_6 rfl) rfl (by show 2 * 0 + _ ≤ _; exact Nat.le_of_eq rfl) (hb hby at_181) (fun _ _ => ⟨rfl, rfl, (by decide : 7 + 1 ≤ _), (by decide : 48 + 1 ≤ _)⟩)
                dsimp only [Pt.U, Pt.locs, Pt.cells, Pt.slots] at X73 l73 y73 z73 st73 hQ73
                subst l73 y73 z73
                obtain ⟨b73_0, rfl, Nq73, K73, u73_0, u73_1, u73_2⟩ := hQ73
                have KK73 : Keep h0 T73.heap [] := KK61.trans K73 all0
                have OL73 := OL61.keep K73 all0
                have g_b73_0 : n0 ≤ b73_0 := Nat.le_trans (Nat.le_trans (Nat.le_of_eq OL61.1.symm) OL61.2.1) u73_0
                have sz_b73_0 : h0.size ≤ b73_0 := Nat.le_trans KK61.1 u73_0
                have N73 := Fr.app N61 Nq73
                have fc75 := ((((A18.keep K21).ext E22).keep K61).keep K73)
                obtain ⟨cq74, kq74, q74a, q74b, q74c⟩ := isOf hZ61 rfl fc75
                obtain ⟨_, _, ⟨T74, L74, k74, n74⟩, -, X74, ⟨Lc74, hQ74, l74, y74, z74⟩, st74⟩ := X73.virtualBack hx (y := (⟨"com/example/larch/larch/model/Interval", "equals", "(Ljava/lang/Object;)Z"⟩ : MethodName)) (z := (⟨"com/example/larch/larch/model/Interval", "equals", "(Ljava/lang/Object;)Z"⟩ : MethodName)) hown61 (mvT hZ61 (wd42 hw)) (mvT hZ61 (wd43 hw)) (notFace_of_selects (args := #[]) (mvT hZ61 (wd45 hw))) (mvT hZ61 (wd45 hw)) (mvT hZ61 (wd44 hw)) (by decide) (backOf (W := 0) (rm5_3 l Z a0 hw [] b18 b73_0 T73.heap n0 OL73 u73_1) hZ61 (wd46 hw) (wd19 hw) (by decide) (by decide)) q74a q74c (g := (mkF m 203 #[.val (.int p1), .val (.int p2), .val (.int p3), .val (.int p4), .val (.int p5), .val (.ref b1), .val (.int y1), .val (.int y3), .val (.int y5), .val (.int y8), .val (.ref b18), .val (.ref b22), .val (.int y10), .val (.ref b73_0), .val (.int (0 : Int32)), .unset] [(.ref b73_0), (.ref b18)])) rfl (by rw [hml]; rfl) (Steps.refl _) (argsL := [(.ref b73_0)]) (rest := []) (lenOf pd_3 rfl) rfl (by show 2 * 0 + _ ≤ _; exact Nat.le_of_eq rfl) (hb hby at_203) (fun _ _ => ⟨rfl, rfl, (by decide : 8 + 0 ≤ _), (by decide : 49 + 0 ≤ _)⟩)
                dsimp only [Pt.U, Pt.locs, Pt.cells, Pt.slots] at X74 l74 y74 z74 st74 hQ74
                subst l74 y74 z74
                obtain ⟨rfl, Nq74, ec74⟩ := hQ74
                have N74 := Fr.app N73 Nq74
                obtain ⟨fs, hr, hrun, hended, hRW⟩ := X74.leaveW (s := s) hS61 (by rw [ec74]; exact (Nat.le_trans (Nat.le_refl _) K73.1)) (v := some (.int (1 : Int32))) (fun h => by rw [Bd.returns] at h; cases h)
                refine ⟨_, _, pre72 _ ?_, hrun, hended, _, _, rfl, ⟨rfl, N74⟩, hRW.1, hRW.2.1, hRW.2.2.1, hRW.2.2.2.mono (by decide) (by decide)⟩
                show Steps p.tables e below (T61.setTop (mkF m 181 #[.val (.int p1), .val (.int p2), .val (.int p3), .val (.int p4), .val (.int p5), .val (.ref b1), .val (.int y1), .val (.int y3), .val (.int y5), .val (.int y8), .val (.ref b18), .val (.ref b22), .val (.int y10), .unset, .unset, .unset] [(.int y5)])) _
                refine st73 _ ?_
                show Steps p.tables e below (T73.setTop (mkF m 184 #[.val (.int p1), .val (.int p2), .val (.int p3), .val (.int p4), .val (.int p5), .val (.ref b1), .val (.int y1), .val (.int y3), .val (.int y5), .val (.int y8), .val (.ref b18), .val (.ref b22), .val (.int y10), .unset, .unset, .unset] [(.ref b73_0)])) _
                refine XS.astore X73.here hx rfl (hb hby at_184) rfl rfl (l' := #[.val (.int p1), .val (.int p2), .val (.int p3), .val (.int p4), .val (.int p5), .val (.ref b1), .val (.int y1), .val (.int y3), .val (.int y5), .val (.int y8), .val (.ref b18), .val (.ref b22), .val (.int y10), .val (.ref b73_0), .unset, .unset]) rfl ?_
                refine XS.iconst X73.here hx rfl (hb hby at_186) ?_
                refine XS.istore X73.here hx rfl (hb hby at_187) rfl (l' := #[.val (.int p1), .val (.int p2), .val (.int p3), .val (.int p4), .val (.int p5), .val (.ref b1), .val (.int y1), .val (.int y3), .val (.int y5), .val (.int y8), .val (.ref b18), .val (.ref b22), .val (.int y10), .val (.ref b73_0), .val (.int (0 : Int32)), .unset]) rfl ?_
                refine XS.goto X73.here hx rfl (pc0 := 189) (pc' := 199) rfl (hb hby at_189) (by decide) (by decide) ?_
                show Steps p.tables e below (T73.setTop (mkF m 199 #[.val (.int p1), .val (.int p2), .val (.int p3), .val (.int p4), .val (.int p5), .val (.ref b1), .val (.int y1), .val (.int y3), .val (.int y5), .val (.int y8), .val (.ref b18), .val (.ref b22), .val (.int y10), .val (.ref b73_0), .val (.int (0 : Int32)), .unset] [])) _
                refine XS.aload X73.here hx rfl (hb hby at_199) rfl rfl ?_
                refine XS.aload X73.here hx rfl (hb hby at_201) rfl rfl ?_
                show Steps p.tables e below (T73.setTop (mkF m 203 #[.val (.int p1), .val (.int p2), .val (.int p3), .val (.int p4), .val (.int p5), .val (.ref b1), .val (.int y1), .val (.int y3), .val (.int y5), .val (.int y8), .val (.ref b18), .val (.ref b22), .val (.int y10), .val (.ref b73_0), .val (.int (0 : Int32)), .unset] [(.ref b73_0), (.ref b18)])) _
                refine st74.trans ?_
                show Steps p.tables e below (T74.setTop (mkF m 206 #[.val (.int p1), .val (.int p2), .val (.int p3), .val (.int p4), .val (.int p5), .val (.ref b1), .val (.int y1), .val (.int y3), .val (.int y5), .val (.int y8), .val (.ref b18), .val (.ref b22), .val (.int y10), .val (.ref b73_0), .val (.int (0 : Int32)), .unset] [(.int (0 : Int32))])) _
                refine XS.istore X74.here hx rfl (hb hby at_206) rfl (l' := #[.val (.int p1), .val (.int p2), .val (.int p3), .val (.int p4), .val (.int p5), .val (.ref b1), .val (.int y1), .val (.int y3), .val (.int y5), .val (.int y8), .val (.ref b18), .val (.ref b22), .val (.int y10), .val (.ref b73_0), .val (.int (0 : Int32)), .val (.int (0 : Int32))]) rfl ?_
                refine XS.iload X74.here hx rfl (hb hby at_208) rfl ?_
                refine XS.iload X74.here hx rfl (hb hby at_210) rfl ?_
                show Steps p.tables e below (T74.setTop (mkF m 212 #[.val (.int p1), .val (.int p2), .val (.int p3), .val (.int p4), .val (.int p5), .val (.ref b1), .val (.int y1), .val (.int y3), .val (.int y5), .val (.int y8), .val (.ref b18), .val (.ref b22), .val (.int y10), .val (.ref b73_0), .val (.int (0 : Int32)), .val (.int (0 : Int32))] [(.int (0 : Int32)), (.int (0 : Int32))])) _
                refine XS.icmpYes X74.here hx rfl (pc0 := 212) (pc' := 217) rfl (hb hby at_212) rfl (teq (rfl : (0 : Int32) = (0 : Int32))).1 (by decide) (by decide) ?_
                show Steps p.tables e below (T74.setTop (mkF m 217 #[.val (.int p1), .val (.int p2), .val (.int p3), .val (.int p4), .val (.int p5), .val (.ref b1), .val (.int y1), .val (.int y3), .val (.int y5), .val (.int y8), .val (.ref b18), .val (.ref b22), .val (.int y10), .val (.ref b73_0), .val (.int (0 : Int32)), .val (.int (0 : Int32))] [])) _
                refine XS.iload X74.here hx rfl (hb hby at_217) rfl ?_
                show Steps p.tables e below (T74.setTop (mkF m 219 #[.val (.int p1), .val (.int p2), .val (.int p3), .val (.int p4), .val (.int p5), .val (.ref b1), .val (.int y1), .val (.int y3), .val (.int y5), .val (.int y8), .val (.ref b18), .val (.ref b22), .val (.int y10), .val (.ref b73_0), .val (.int (0 : Int32)), .val (.int (0 : Int32))] [(.int y10)])) _
                refine XS.ifYes X74.here hx rfl (pc0 := 219) (pc' := 240) rfl (hb hby at_219) rfl ((if0 _ _).trans (feq hf62).2) (by decide) (by decide) ?_
                show Steps p.tables e below (T74.setTop (mkF m 240 #[.val (.int p1), .val (.int p2), .val (.int p3), .val (.int p4), .val (.int p5), .val (.ref b1), .val (.int y1), .val (.int y3), .val (.int y5), .val (.int y8), .val (.ref b18), .val (.ref b22), .val (.int y10), .val (.ref b73_0), .val (.int (0 : Int32)), .val (.int (0 : Int32))] [])) _
                refine XS.iconst X74.here hx rfl (hb hby at_240) ?_
                show Steps p.tables e below (T74.setTop (mkF m 241 #[.val (.int p1), .val (.int p2), .val (.int p3), .val (.int p4), .val (.int p5), .val (.ref b1), .val (.int y1), .val (.int y3), .val (.int y5), .val (.int y8), .val (.ref b18), .val (.ref b22), .val (.int y10), .val (.ref b73_0), .val (.int (0 : Int32)), .val (.int (0 : Int32))] [(.int (1 : Int32))])) _
                exact retN X74 hx (t := .boolean) Bd.returns (by simp) (hb hby at_241) hr
              · obtain ⟨cx76, bx76⟩ := id pr28
                obtain ⟨wc1, at76, Ea76, Fa76⟩ := own_box bx76 (j := (y5 + (128 : Int32))) (own_inbox pr26 hf72).1 (own_inbox pr26 hf72).2
                simp only [own_addsub] at Fa76
                obtain ⟨_, _, ⟨T77, L77, k77, n77⟩, -, X77, ⟨Lc77, hQ77, l77, y77, z77⟩, st77⟩ := Jvm.LawKit.callS X61 hx (y := (⟨"java/lang/Integer", "valueOf", "(I)Ljava/lang/Integer;"⟩ : MethodName)) hown61 (mvT hZ61 (wd49 hw)) (mvT hZ61 (wd50 hw)) (mvT hZ61 (wd51 hw)) (mvT hZ61 (wd52 hw)) (by decide) (backOf (W := 0) (rm6_1 l Z a0 hw [] y5 w_cache wc1 T61.heap n0 OL61 pr26 pr27 hf72 pr29 at76) hZ61 (wd52 hw) (wd51 hw) (by decide) (by decide)) (g := (mkF m 181 #[.val (.int p1), .val (.int p2), .val (.int p3), .val (.int p4), .val (.int p5), .val (.ref b1), .val (.int y1), .val (.int y3), .val (.int y5), .val (.int y8), .val (.ref b18), .val (.ref b22), .val (.int y10), .unset, .unset, .unset] [(.int y5)])) rfl (by rw [hml]; rfl) (argsL := [(.int y5)]) (rest := []) (lenOf pd_6 rfl) rfl (by show 2 * 0 + _ ≤ _; exact Nat.le_of_eq rfl) (hb hby at_181) (fun _ _ => ⟨rfl, rfl, (by decide : 7 + 0 ≤ _), (by decide : 48 + 0 ≤ _)⟩)
                dsimp only [Pt.U, Pt.locs, Pt.cells, Pt.slots] at X77 l77 y77 z77 st77 hQ77
                subst l77 y77 z77
                obtain ⟨rfl, Nq77, ec77⟩ := hQ77
                have N77 := Fr.app N61 Nq77
                have fc79 := (((A18.keep K21).ext E22).keep K61)
                obtain ⟨cq78, kq78, q78a, q78b, q78c⟩ := isOf hZ61 ec77 fc79
                obtain ⟨_, _, ⟨T78, L78, k78, n78⟩, -, X78, ⟨Lc78, hQ78, l78, y78, z78⟩, st78⟩ := X77.virtualBack hx (y := (⟨"com/example/larch/larch/model/Interval", "equals", "(Ljava/lang/Object;)Z"⟩ : MethodName)) (z := (⟨"com/example/larch/larch/model/Interval", "equals", "(Ljava/lang/Object;)Z"⟩ : MethodName)) hown61 (mvT hZ61 (wd42 hw)) (mvT hZ61 (wd43 hw)) (notFace_of_selects (args := #[]) (mvT hZ61 (wd45 hw))) (mvT hZ61 (wd45 hw)) (mvT hZ61 (wd44 hw)) (by decide) (backOf (W := 0) (rm5_4 l Z a0 hw [] b18 wc1 T61.heap n0 OL61 Ea76) hZ61 (wd46 hw) (wd19 hw) (by decide) (by decide)) q78a q78c (g := (mkF m 203 #[.val (.int p1), .val (.int p2), .val (.int p3), .val (.int p4), .val (.int p5), .val (.ref b1), .val (.int y1), .val (.int y3), .val (.int y5), .val (.int y8), .val (.ref b18), .val (.ref b22), .val (.int y10), .val (.ref wc1), .val (.int (0 : Int32)), .unset] [(.ref wc1), (.ref b18)])) rfl (by rw [hml]; rfl) (Steps.refl _) (argsL := [(.ref wc1)]) (rest := []) (lenOf pd_3 rfl) rfl (by show 2 * 0 + _ ≤ _; exact Nat.le_of_eq rfl) (hb hby at_203) (fun _ _ => ⟨rfl, ec77, (by decide : 7 + 0 ≤ _), (by decide : 48 + 0 ≤ _)⟩)
                dsimp only [Pt.U, Pt.locs, Pt.cells, Pt.slots] at X78 l78 y78 z78 st78 hQ78
                subst l78 y78 z78
                obtain ⟨rfl, Nq78, ec78⟩ := hQ78
                have N78 := Fr.app N77 Nq78
                obtain ⟨fs, hr, hrun, hended, hRW⟩ := X78.leaveW (s := s) hS61 (by rw [ec78]; exact (Nat.le_refl _)) (v := some (.int (1 : Int32))) (fun h => by rw [Bd.returns] at h; cases h)
                refine ⟨_, _, pre72 _ ?_, hrun, hended, _, _, rfl, ⟨rfl, N78⟩, hRW.1, hRW.2.1, hRW.2.2.1, hRW.2.2.2.mono (by decide) (by decide)⟩
                show Steps p.tables e below (T61.setTop (mkF m 181 #[.val (.int p1), .val (.int p2), .val (.int p3), .val (.int p4), .val (.int p5), .val (.ref b1), .val (.int y1), .val (.int y3), .val (.int y5), .val (.int y8), .val (.ref b18), .val (.ref b22), .val (.int y10), .unset, .unset, .unset] [(.int y5)])) _
                refine st77 _ ?_
                show Steps p.tables e below (T77.setTop (mkF m 184 #[.val (.int p1), .val (.int p2), .val (.int p3), .val (.int p4), .val (.int p5), .val (.ref b1), .val (.int y1), .val (.int y3), .val (.int y5), .val (.int y8), .val (.ref b18), .val (.ref b22), .val (.int y10), .unset, .unset, .unset] [(.ref wc1)])) _
                refine XS.astore X77.here hx rfl (hb hby at_184) rfl rfl (l' := #[.val (.int p1), .val (.int p2), .val (.int p3), .val (.int p4), .val (.int p5), .val (.ref b1), .val (.int y1), .val (.int y3), .val (.int y5), .val (.int y8), .val (.ref b18), .val (.ref b22), .val (.int y10), .val (.ref wc1), .unset, .unset]) rfl ?_
                refine XS.iconst X77.here hx rfl (hb hby at_186) ?_
                refine XS.istore X77.here hx rfl (hb hby at_187) rfl (l' := #[.val (.int p1), .val (.int p2), .val (.int p3), .val (.int p4), .val (.int p5), .val (.ref b1), .val (.int y1), .val (.int y3), .val (.int y5), .val (.int y8), .val (.ref b18), .val (.ref b22), .val (.int y10), .val (.ref wc1), .val (.int (0 : Int32)), .unset]) rfl ?_
                refine XS.goto X77.here hx rfl (pc0 := 189) (pc' := 199) rfl (hb hby at_189) (by decide) (by decide) ?_
                show Steps p.tables e below (T77.setTop (mkF m 199 #[.val (.int p1), .val (.int p2), .val (.int p3), .val (.int p4), .val (.int p5), .val (.ref b1), .val (.int y1), .val (.int y3), .val (.int y5), .val (.int y8), .val (.ref b18), .val (.ref b22), .val (.int y10), .val (.ref wc1), .val (.int (0 : Int32)), .unset] [])) _
                refine XS.aload X77.here hx rfl (hb hby at_199) rfl rfl ?_
                refine XS.aload X77.here hx rfl (hb hby at_201) rfl rfl ?_
                show Steps p.tables e below (T77.setTop (mkF m 203 #[.val (.int p1), .val (.int p2), .val (.int p3), .val (.int p4), .val (.int p5), .val (.ref b1), .val (.int y1), .val (.int y3), .val (.int y5), .val (.int y8), .val (.ref b18), .val (.ref b22), .val (.int y10), .val (.ref wc1), .val (.int (0 : Int32)), .unset] [(.ref wc1), (.ref b18)])) _
                refine st78.trans ?_
                show Steps p.tables e below (T78.setTop (mkF m 206 #[.val (.int p1), .val (.int p2), .val (.int p3), .val (.int p4), .val (.int p5), .val (.ref b1), .val (.int y1), .val (.int y3), .val (.int y5), .val (.int y8), .val (.ref b18), .val (.ref b22), .val (.int y10), .val (.ref wc1), .val (.int (0 : Int32)), .unset] [(.int (0 : Int32))])) _
                refine XS.istore X78.here hx rfl (hb hby at_206) rfl (l' := #[.val (.int p1), .val (.int p2), .val (.int p3), .val (.int p4), .val (.int p5), .val (.ref b1), .val (.int y1), .val (.int y3), .val (.int y5), .val (.int y8), .val (.ref b18), .val (.ref b22), .val (.int y10), .val (.ref wc1), .val (.int (0 : Int32)), .val (.int (0 : Int32))]) rfl ?_
                refine XS.iload X78.here hx rfl (hb hby at_208) rfl ?_
                refine XS.iload X78.here hx rfl (hb hby at_210) rfl ?_
                show Steps p.tables e below (T78.setTop (mkF m 212 #[.val (.int p1), .val (.int p2), .val (.int p3), .val (.int p4), .val (.int p5), .val (.ref b1), .val (.int y1), .val (.int y3), .val (.int y5), .val (.int y8), .val (.ref b18), .val (.ref b22), .val (.int y10), .val (.ref wc1), .val (.int (0 : Int32)), .val (.int (0 : Int32))] [(.int (0 : Int32)), (.int (0 : Int32))])) _
                refine XS.icmpYes X78.here hx rfl (pc0 := 212) (pc' := 217) rfl (hb hby at_212) rfl (teq (rfl : (0 : Int32) = (0 : Int32))).1 (by decide) (by decide) ?_
                show Steps p.tables e below (T78.setTop (mkF m 217 #[.val (.int p1), .val (.int p2), .val (.int p3), .val (.int p4), .val (.int p5), .val (.ref b1), .val (.int y1), .val (.int y3), .val (.int y5), .val (.int y8), .val (.ref b18), .val (.ref b22), .val (.int y10), .val (.ref wc1), .val (.int (0 : Int32)), .val (.int (0 : Int32))] [])) _
                refine XS.iload X78.here hx rfl (hb hby at_217) rfl ?_
                show Steps p.tables e below (T78.setTop (mkF m 219 #[.val (.int p1), .val (.int p2), .val (.int p3), .val (.int p4), .val (.int p5), .val (.ref b1), .val (.int y1), .val (.int y3), .val (.int y5), .val (.int y8), .val (.ref b18), .val (.ref b22), .val (.int y10), .val (.ref wc1), .val (.int (0 : Int32)), .val (.int (0 : Int32))] [(.int y10)])) _
                refine XS.ifYes X78.here hx rfl (pc0 := 219) (pc' := 240) rfl (hb hby at_219) rfl ((if0 _ _).trans (feq hf62).2) (by decide) (by decide) ?_
                show Steps p.tables e below (T78.setTop (mkF m 240 #[.val (.int p1), .val (.int p2), .val (.int p3), .val (.int p4), .val (.int p5), .val (.ref b1), .val (.int y1), .val (.int y3), .val (.int y5), .val (.int y8), .val (.ref b18), .val (.ref b22), .val (.int y10), .val (.ref wc1), .val (.int (0 : Int32)), .val (.int (0 : Int32))] [])) _
                refine XS.iconst X78.here hx rfl (hb hby at_240) ?_
                show Steps p.tables e below (T78.setTop (mkF m 241 #[.val (.int p1), .val (.int p2), .val (.int p3), .val (.int p4), .val (.int p5), .val (.ref b1), .val (.int y1), .val (.int y3), .val (.int y5), .val (.int y8), .val (.ref b18), .val (.ref b22), .val (.int y10), .val (.ref wc1), .val (.int (0 : Int32)), .val (.int (0 : Int32))] [(.int (1 : Int32))])) _
                exact retN X78 hx (t := .boolean) Bd.returns (by simp) (hb hby at_241) hr
            · have fc81 := (((A18.keep K21).ext E22).keep K61)
              have fc82 := ((u21_0.ext E22).keep K61 (ninS (Nat.ne_of_lt (Nat.lt_of_lt_of_le u21_1.lt (Nat.le_of_eq g22.symm))) nin0))
              have fc83 := ((u21_1.ext E22).keep K61 (ninS (Nat.ne_of_lt (Nat.lt_of_lt_of_le u21_1.lt (Nat.le_of_eq g22.symm))) nin0))
              obtain ⟨cq80, kq80, q80a, q80b, q80c⟩ := isOf hZ61 rfl fc81
              obtain ⟨_, _, ⟨T80, L80, k80, n80⟩, -, X80, ⟨Lc80, hQ80, l80, y80, z80⟩, st80⟩ := X61.virtualBack hx (y := (⟨"com/example/larch/larch/model/Interval", "equals", "(Ljava/lang/Object;)Z"⟩ : MethodName)) (z := (⟨"com/example/larch/larch/model/Interval", "equals", "(Ljava/lang/Object;)Z"⟩ : MethodName)) hown61 (mvT hZ61 (wd42 hw)) (mvT hZ61 (wd43 hw)) (notFace_of_selects (args := #[]) (mvT hZ61 (wd45 hw))) (mvT hZ61 (wd45 hw)) (mvT hZ61 (wd44 hw)) (by decide) (backOf (W := 0) (rm5_5 l Z a0 hw [] b18 v1 y5 T61.heap n0 OL61 fc81 fc82 fc83) hZ61 (wd46 hw) (wd19 hw) (by decide) (by decide)) q80a q80c (g := (mkF m 203 #[.val (.int p1), .val (.int p2), .val (.int p3), .val (.int p4), .val (.int p5), .val (.ref b1), .val (.int y1), .val (.int y3), .val (.int y5), .val (.int y8), .val (.ref b18), .val (.ref b22), .val (.int y10), .val (.ref b18), .val (.int (1 : Int32)), .unset] [(.ref b18), (.ref b18)])) rfl (by rw [hml]; rfl) (Steps.refl _) (argsL := [(.ref b18)]) (rest := []) (lenOf pd_3 rfl) rfl (by show 2 * 0 + _ ≤ _; exact Nat.le_of_eq rfl) (hb hby at_203) (fun _ _ => ⟨rfl, rfl, (by decide : 7 + 0 ≤ _), (by decide : 48 + 0 ≤ _)⟩)
              dsimp only [Pt.U, Pt.locs, Pt.cells, Pt.slots] at X80 l80 y80 z80 st80 hQ80
              subst l80 y80 z80
              obtain ⟨rfl, Nq80, ec80⟩ := hQ80
              have N80 := Fr.app N61 Nq80
              obtain ⟨fs, hr, hrun, hended, hRW⟩ := X80.leaveW (s := s) hS61 (by rw [ec80]; exact (Nat.le_refl _)) (v := some (.int (1 : Int32))) (fun h => by rw [Bd.returns] at h; cases h)
              refine ⟨_, _, pre71 _ ?_, hrun, hended, _, _, rfl, ⟨rfl, N80⟩, hRW.1, hRW.2.1, hRW.2.2.1, hRW.2.2.2.mono (by decide) (by decide)⟩
              show Steps p.tables e below (T61.setTop (mkF m 176 #[.val (.int p1), .val (.int p2), .val (.int p3), .val (.int p4), .val (.int p5), .val (.ref b1), .val (.int y1), .val (.int y3), .val (.int y5), .val (.int y8), .val (.ref b18), .val (.ref b22), .val (.int y10), .unset, .unset, .unset] [(.int (2 : Int32)), (.int y10)])) _
              refine XS.icmpYes X61.here hx rfl (pc0 := 176) (pc' := 192) rfl (hb hby at_176) rfl (feq hf71).2 (by decide) (by decide) ?_
              show Steps p.tables e below (T61.setTop (mkF m 192 #[.val (.int p1), .val (.int p2), .val (.int p3), .val (.int p4), .val (.int p5), .val (.ref b1), .val (.int y1), .val (.int y3), .val (.int y5), .val (.int y8), .val (.ref b18), .val (.ref b22), .val (.int y10), .unset, .unset, .unset] [])) _
              refine XS.aload X61.here hx rfl (hb hby at_192) rfl rfl ?_
              refine XS.astore X61.here hx rfl (hb hby at_194) rfl rfl (l' := #[.val (.int p1), .val (.int p2), .val (.int p3), .val (.int p4), .val (.int p5), .val (.ref b1), .val (.int y1), .val (.int y3), .val (.int y5), .val (.int y8), .val (.ref b18), .val (.ref b22), .val (.int y10), .val (.ref b18), .unset, .unset]) rfl ?_
              refine XS.iconst X61.here hx rfl (hb hby at_196) ?_
              refine XS.istore X61.here hx rfl (hb hby at_197) rfl (l' := #[.val (.int p1), .val (.int p2), .val (.int p3), .val (.int p4), .val (.int p5), .val (.ref b1), .val (.int y1), .val (.int y3), .val (.int y5), .val (.int y8), .val (.ref b18), .val (.ref b22), .val (.int y10), .val (.ref b18), .val (.int (1 : Int32)), .unset]) rfl ?_
              show Steps p.tables e below (T61.setTop (mkF m 199 #[.val (.int p1), .val (.int p2), .val (.int p3), .val (.int p4), .val (.int p5), .val (.ref b1), .val (.int y1), .val (.int y3), .val (.int y5), .val (.int y8), .val (.ref b18), .val (.ref b22), .val (.int y10), .val (.ref b18), .val (.int (1 : Int32)), .unset] [])) _
              refine XS.aload X61.here hx rfl (hb hby at_199) rfl rfl ?_
              refine XS.aload X61.here hx rfl (hb hby at_201) rfl rfl ?_
              show Steps p.tables e below (T61.setTop (mkF m 203 #[.val (.int p1), .val (.int p2), .val (.int p3), .val (.int p4), .val (.int p5), .val (.ref b1), .val (.int y1), .val (.int y3), .val (.int y5), .val (.int y8), .val (.ref b18), .val (.ref b22), .val (.int y10), .val (.ref b18), .val (.int (1 : Int32)), .unset] [(.ref b18), (.ref b18)])) _
              refine st80.trans ?_
              show Steps p.tables e below (T80.setTop (mkF m 206 #[.val (.int p1), .val (.int p2), .val (.int p3), .val (.int p4), .val (.int p5), .val (.ref b1), .val (.int y1), .val (.int y3), .val (.int y5), .val (.int y8), .val (.ref b18), .val (.ref b22), .val (.int y10), .val (.ref b18), .val (.int (1 : Int32)), .unset] [(.int (1 : Int32))])) _
              refine XS.istore X80.here hx rfl (hb hby at_206) rfl (l' := #[.val (.int p1), .val (.int p2), .val (.int p3), .val (.int p4), .val (.int p5), .val (.ref b1), .val (.int y1), .val (.int y3), .val (.int y5), .val (.int y8), .val (.ref b18), .val (.ref b22), .val (.int y10), .val (.ref b18), .val (.int (1 : Int32)), .val (.int (1 : Int32))]) rfl ?_
              refine XS.iload X80.here hx rfl (hb hby at_208) rfl ?_
              refine XS.iload X80.here hx rfl (hb hby at_210) rfl ?_
              show Steps p.tables e below (T80.setTop (mkF m 212 #[.val (.int p1), .val (.int p2), .val (.int p3), .val (.int p4), .val (.int p5), .val (.ref b1), .val (.int y1), .val (.int y3), .val (.int y5), .val (.int y8), .val (.ref b18), .val (.ref b22), .val (.int y10), .val (.ref b18), .val (.int (1 : Int32)), .val (.int (1 : Int32))] [(.int (1 : Int32)), (.int (1 : Int32))])) _
              refine XS.icmpYes X80.here hx rfl (pc0 := 212) (pc' := 217) rfl (hb hby at_212) rfl (teq (rfl : (1 : Int32) = (1 : Int32))).1 (by decide) (by decide) ?_
              show Steps p.tables e below (T80.setTop (mkF m 217 #[.val (.int p1), .val (.int p2), .val (.int p3), .val (.int p4), .val (.int p5), .val (.ref b1), .val (.int y1), .val (.int y3), .val (.int y5), .val (.int y8), .val (.ref b18), .val (.ref b22), .val (.int y10), .val (.ref b18), .val (.int (1 : Int32)), .val (.int (1 : Int32))] [])) _
              refine XS.iload X80.here hx rfl (hb hby at_217) rfl ?_
              show Steps p.tables e below (T80.setTop (mkF m 219 #[.val (.int p1), .val (.int p2), .val (.int p3), .val (.int p4), .val (.int p5), .val (.ref b1), .val (.int y1), .val (.int y3), .val (.int y5), .val (.int y8), .val (.ref b18), .val (.ref b22), .val (.int y10), .val (.ref b18), .val (.int (1 : Int32)), .val (.int (1 : Int32))] [(.int y10)])) _
              refine XS.ifYes X80.here hx rfl (pc0 := 219) (pc' := 240) rfl (hb hby at_219) rfl ((if0 _ _).trans (feq hf62).2) (by decide) (by decide) ?_
              show Steps p.tables e below (T80.setTop (mkF m 240 #[.val (.int p1), .val (.int p2), .val (.int p3), .val (.int p4), .val (.int p5), .val (.ref b1), .val (.int y1), .val (.int y3), .val (.int y5), .val (.int y8), .val (.ref b18), .val (.ref b22), .val (.int y10), .val (.ref b18), .val (.int (1 : Int32)), .val (.int (1 : Int32))] [])) _
              refine XS.iconst X80.here hx rfl (hb hby at_240) ?_
              show Steps p.tables e below (T80.setTop (mkF m 241 #[.val (.int p1), .val (.int p2), .val (.int p3), .val (.int p4), .val (.int p5), .val (.ref b1), .val (.int y1), .val (.int y3), .val (.int y5), .val (.int y8), .val (.ref b18), .val (.ref b22), .val (.int y10), .val (.ref b18), .val (.int (1 : Int32)), .val (.int (1 : Int32))] [(.int (1 : Int32))])) _
              exact retN X80 hx (t := .boolean) Bd.returns (by simp) (hb hby at_241) hr
    · obtain ⟨T84, h84, X84, e84, E84, A84, D84, -, st84⟩ := newO X15 hx hZ hown (wd17 hw) (wd18 hw) (wd19 hw) ec15 (g := (mkF m 85 #[.val (.int p1), .val (.int p2), .val (.int p3), .val (.int p4), .val (.int p5), .val (.ref b1), .val (.int y1), .val (.int y3), .val (.int y5), .val (.int y5), .unset, .unset, .unset, .unset, .unset, .unset] [])) rfl (hb hby at_85) (by decide) (by decide)
      obtain ⟨b84, g84⟩ : ∃ z, z = h13.size := ⟨_, rfl⟩
      rw [← g84] at A84 D84 st84
      have g_b84 : n0 ≤ b84 := (Nat.le_trans (Nat.le_trans (Nat.le_of_eq OL13.1.symm) OL13.2.1) (Nat.le_of_eq g84.symm))
      have sz_b84 : h0.size ≤ b84 := (Nat.le_trans KK13.1 (Nat.le_of_eq g84.symm))
      have KK84 : Keep h0 h84 [] := KK13.ext E84
      have OL84 := OL13.ext E84
      have F_unit_b84 : Fld Z h84 b84 "com/example/larch/larch/model/Interval" "unit" "Lcom/example/larch/larch/model/IntervalUnit;" .null := D84 (Or.inr (wd39 hw)) (ty := (.object "com/example/larch/larch/model/IntervalUnit")) (by decide)
      have F_length_b84 : Fld Z h84 b84 "com/example/larch/larch/model/Interval" "length" "I" (.int (0 : Int32)) := D84 (Or.inr (wd41 hw)) (ty := .int) (by decide)
      have fc85 := (V13.ext E84)
      obtain ⟨cl86, Ar86, -, S86, -, Hs86, -⟩ := id fc85
      have hin86 : ¬ (y1 < 0 ∨ cl86.slots.size ≤ (y1).toNatClampNeg) := inb_of S86 ⟨pr17, pr18⟩
      have hat86 : cl86.slots[(y1).toNatClampNeg]? = some (.ref v1) := Hs86.at hin86 pr19
      obtain ⟨_, _, ⟨T87, L87, k87, n87⟩, -, Xa87, hSi87, hgr87, ⟨Lc87, hQ87, l87, y87, z87⟩, st87⟩ := X84.specialBackS hx (y := (⟨"com/example/larch/larch/model/Interval", "<init>", "(Lcom/example/larch/larch/model/IntervalUnit;I)V"⟩ : MethodName)) rfl hown (mvT hZ (wd20 hw)) (mvT hZ (wd21 hw)) (mvT hZ (wd22 hw)) (by decide) (backOfS (W := 1) (rm2_0 l Z a0 hw [] b84 v1 y5 h84 n0 OL84 pr20 A84 F_unit_b84 g_b84 F_length_b84) hZ (wd22 hw) (wd19 hw) (by decide) (by decide)) (g := (mkF m 96 #[.val (.int p1), .val (.int p2), .val (.int p3), .val (.int p4), .val (.int p5), .val (.ref b1), .val (.int y1), .val (.int y3), .val (.int y5), .val (.int y5), .unset, .unset, .unset, .unset, .unset, .unset] [(.int y5), (.ref v1), (.ref b84), (.ref b84)])) rfl (by rw [hml]; rfl) (Steps.refl _) (a := b84) (argsL := [(.ref v1), (.int y5)]) (rest := [(.ref b84)]) (lenOf pd_2 rfl) rfl (by show 2 * 0 + _ ≤ _; exact Nat.le_of_eq rfl) (hb hby at_96) (fun _ _ => ⟨rfl, e84, (by decide : 2 + 2 ≤ _), (by decide : 6 + 20 ≤ _)⟩)
      dsimp only [Pt.U, Pt.locs, Pt.cells, Pt.slots] at Xa87 l87 y87 z87 st87 hQ87 hSi87 hgr87
      subst l87 y87 z87
      obtain ⟨X87, hS87, hZ87, hown87⟩ := rebS (s := s) (vm0 := s.vm) ((State.WarmedH.refl s).since 0) (n1 := T84.heap.size) (by rw [e84]; exact (Nat.le_trans (Nat.le_trans (Nat.le_trans (Nat.le_trans (Nat.le_trans (Nat.le_trans (Nat.zero_le _) E1.1) (Nat.le_of_eq W4.size.symm)) (Nat.le_of_eq W7.size.symm)) (Nat.le_of_eq W10.size.symm)) (Nat.le_of_eq W13.size.symm)) E84.1)) Xa87 hSi87 hgr87 hZ hown
      obtain ⟨rfl, Nq87, K87, u87_0, u87_1⟩ := hQ87
      have KK87 : Keep h0 T87.heap [] := KK84.trans K87 (allS (Or.inr sz_b84) all0)
      have OL87 := OL84.keep K87 (allS g_b84 all0)
      have N87 := Fr.app N15 Nq87
      obtain ⟨T88, h88, X88, e88, E88, A88, D88, -, st88⟩ := newO X87 hx hZ87 hown87 (wd17 hw) (wd18 hw) (wd19 hw) rfl (g := (mkF m 101 #[.val (.int p1), .val (.int p2), .val (.int p3), .val (.int p4), .val (.int p5), .val (.ref b1), .val (.int y1), .val (.int y3), .val (.int y5), .val (.int y5), .val (.ref b84), .unset, .unset, .unset, .unset, .unset] [])) rfl (hb hby at_101) (by decide) (by decide)
      obtain ⟨b88, g88⟩ : ∃ z, z = T87.heap.size := ⟨_, rfl⟩
      rw [← g88] at A88 D88 st88
      have g_b88 : n0 ≤ b88 := (Nat.le_trans (Nat.le_trans (Nat.le_of_eq OL87.1.symm) OL87.2.1) (Nat.le_of_eq g88.symm))
      have sz_b88 : h0.size ≤ b88 := (Nat.le_trans KK87.1 (Nat.le_of_eq g88.symm))
      have KK88 : Keep h0 h88 [] := KK87.ext E88
      have OL88 := OL87.ext E88
      have F_unit_b88 : Fld Z h88 b88 "com/example/larch/larch/model/Interval" "unit" "Lcom/example/larch/larch/model/IntervalUnit;" .null := D88 (Or.inr (wd39 hw)) (ty := (.object "com/example/larch/larch/model/IntervalUnit")) (by decide)
      have F_length_b88 : Fld Z h88 b88 "com/example/larch/larch/model/Interval" "length" "I" (.int (0 : Int32)) := D88 (Or.inr (wd41 hw)) (ty := .int) (by decide)
      have pre91 : ∀ t, Steps p.tables e below (T88.setTop (mkF m 109 #[.val (.int p1), .val (.int p2), .val (.int p3), .val (.int p4), .val (.int p5), .val (.ref b1), .val (.int y1), .val (.int y3), .val (.int y5), .val (.int y5), .val (.ref b84), .unset, .unset, .unset, .unset, .unset] [(.int y3), (.ref b1), (.ref b88), (.ref b88)])) t → Steps p.tables e below (s₁.setTop (entryFrame m #[(.int p1), (.int p2), (.int p3), (.int p4), (.int p5)] maxLocals)) t := by
        intro t kt
        refine pre16 _ ?_
        show Steps p.tables e below (T15.setTop (mkF m 67 #[.val (.int p1), .val (.int p2), .val (.int p3), .val (.int p4), .val (.int p5), .val (.ref b1), .val (.int y1), .val (.int y3), .val (.int y5), .unset, .unset, .unset, .unset, .unset, .unset, .unset] [(.int y6)])) _
        refine XS.ifNo X15.here hx rfl (hb hby at_67) rfl ((if0 _ _).trans (feq hf16).1) ?_
        show Steps p.tables e below (T15.setTop (mkF m 70 #[.val (.int p1), .val (.int p2), .val (.int p3), .val (.int p4), .val (.int p5), .val (.ref b1), .val (.int y1), .val (.int y3), .val (.int y5), .unset, .unset, .unset, .unset, .unset, .unset, .unset] [])) _
        refine XS.iload X15.here hx rfl (hb hby at_70) rfl ?_
        refine XS.goto X15.here hx rfl (pc0 := 72) (pc' := 83) rfl (hb hby at_72) (by decide) (by decide) ?_
        refine XS.istore X15.here hx rfl (hb hby at_83) rfl (l' := #[.val (.int p1), .val (.int p2), .val (.int p3), .val (.int p4), .val (.int p5), .val (.ref b1), .val (.int y1), .val (.int y3), .val (.int y5), .val (.int y5), .unset, .unset, .unset, .unset, .unset, .unset]) rfl ?_
        show Steps p.tables e below (T15.setTop (mkF m 85 #[.val (.int p1), .val (.int p2), .val (.int p3), .val (.int p4), .val (.int p5), .val (.ref b1), .val (.int y1), .val (.int y3), .val (.int y5), .val (.int y5), .unset, .unset, .unset, .unset, .unset, .unset] [])) _
        refine st84 _ ?_
        show Steps p.tables e below (T84.setTop (mkF m 88 #[.val (.int p1), .val (.int p2), .val (.int p3), .val (.int p4), .val (.int p5), .val (.ref b1), .val (.int y1), .val (.int y3), .val (.int y5), .val (.int y5), .unset, .unset, .unset, .unset, .unset, .unset] [(.ref b84)])) _
        refine XS.dup X84.here hx rfl (hb hby at_88) rfl rfl ?_
        refine XS.aload X84.here hx rfl (hb hby at_89) rfl rfl ?_
        refine XS.iload X84.here hx rfl (hb hby at_91) rfl ?_
        show Steps p.tables e below (T84.setTop (mkF m 93 #[.val (.int p1), .val (.int p2), .val (.int p3), .val (.int p4), .val (.int p5), .val (.ref b1), .val (.int y1), .val (.int y3), .val (.int y5), .val (.int y5), .unset, .unset, .unset, .unset, .unset, .unset] [(.int y1), (.ref b1), (.ref b84), (.ref b84)])) _
        refine X84.aaload hx (j := y1) (v := (.ref v1)) (by rw [e84]; exact Ar86.1) (State.isArrayOf_alike hZ.alike Ar86.2.1) rfl Ar86.2.2 hin86 hat86 (g := (mkF m 93 #[.val (.int p1), .val (.int p2), .val (.int p3), .val (.int p4), .val (.int p5), .val (.ref b1), .val (.int y1), .val (.int y3), .val (.int y5), .val (.int y5), .unset, .unset, .unset, .unset, .unset, .unset] [(.int y1), (.ref b1), (.ref b84), (.ref b84)])) rfl rfl (hb hby at_93) _ ?_
        show Steps p.tables e below (T84.setTop (mkF m 94 #[.val (.int p1), .val (.int p2), .val (.int p3), .val (.int p4), .val (.int p5), .val (.ref b1), .val (.int y1), .val (.int y3), .val (.int y5), .val (.int y5), .unset, .unset, .unset, .unset, .unset, .unset] [(.ref v1), (.ref b84), (.ref b84)])) _
        refine XS.iload X84.here hx rfl (hb hby at_94) rfl ?_
        show Steps p.tables e below (T84.setTop (mkF m 96 #[.val (.int p1), .val (.int p2), .val (.int p3), .val (.int p4), .val (.int p5), .val (.ref b1), .val (.int y1), .val (.int y3), .val (.int y5), .val (.int y5), .unset, .unset, .unset, .unset, .unset, .unset] [(.int y5), (.ref v1), (.ref b84), (.ref b84)])) _
        refine st87.trans ?_
        show Steps p.tables e below (T87.setTop (mkF m 99 #[.val (.int p1), .val (.int p2), .val (.int p3), .val (.int p4), .val (.int p5), .val (.ref b1), .val (.int y1), .val (.int y3), .val (.int y5), .val (.int y5), .unset, .unset, .unset, .unset, .unset, .unset] [(.ref b84)])) _
        refine XS.astore X87.here hx rfl (hb hby at_99) rfl rfl (l' := #[.val (.int p1), .val (.int p2), .val (.int p3), .val (.int p4), .val (.int p5), .val (.ref b1), .val (.int y1), .val (.int y3), .val (.int y5), .val (.int y5), .val (.ref b84), .unset, .unset, .unset, .unset, .unset]) rfl ?_
        show Steps p.tables e below (T87.setTop (mkF m 101 #[.val (.int p1), .val (.int p2), .val (.int p3), .val (.int p4), .val (.int p5), .val (.ref b1), .val (.int y1), .val (.int y3), .val (.int y5), .val (.int y5), .val (.ref b84), .unset, .unset, .unset, .unset, .unset] [])) _
        refine st88 _ ?_
        show Steps p.tables e below (T88.setTop (mkF m 104 #[.val (.int p1), .val (.int p2), .val (.int p3), .val (.int p4), .val (.int p5), .val (.ref b1), .val (.int y1), .val (.int y3), .val (.int y5), .val (.int y5), .val (.ref b84), .unset, .unset, .unset, .unset, .unset] [(.ref b88)])) _
        refine XS.dup X88.here hx rfl (hb hby at_104) rfl rfl ?_
        refine XS.aload X88.here hx rfl (hb hby at_105) rfl rfl ?_
        refine XS.iload X88.here hx rfl (hb hby at_107) rfl ?_
        exact kt
      by_cases hf91 : y1 = y3
      · have fc92 := ((fc85.keep K87 (ninS (Nat.ne_of_lt (Nat.lt_of_lt_of_le V13.lt (Nat.le_of_eq g84.symm))) nin0)).ext E88)
        obtain ⟨cl93, Ar93, -, S93, -, Hs93, -⟩ := id fc92
        have hin93 : ¬ (y3 < 0 ∨ cl93.slots.size ≤ (y3).toNatClampNeg) := inb_of S93 ⟨pr21, pr22⟩
        have hat93 : cl93.slots[(y3).toNatClampNeg]? = some (.ref v1) := Hs93.at hin93 (by rw [← hf91]; exact pr19)
        obtain ⟨_, _, ⟨T94, L94, k94, n94⟩, -, Xa94, hSi94, hgr94, ⟨Lc94, hQ94, l94, y94, z94⟩, st94⟩ := X88.specialBackS hx (y := (⟨"com/example/larch/larch/model/Interval", "<init>", "(Lcom/example/larch/larch/model/IntervalUnit;I)V"⟩ : MethodName)) rfl hown87 (mvT hZ87 (wd20 hw)) (mvT hZ87 (wd21 hw)) (mvT hZ87 (wd22 hw)) (by decide) (backOfS (W := 1) (rm2_0 l Z a0 hw [] b88 v1 y5 h88 n0 OL88 pr20 A88 F_unit_b88 g_b88 F_length_b88) hZ87 (wd22 hw) (wd19 hw) (by decide) (by decide)) (g := (mkF m 112 #[.val (.int p1), .val (.int p2), .val (.int p3), .val (.int p4), .val (.int p5), .val (.ref b1), .val (.int y1), .val (.int y3), .val (.int y5), .val (.int y5), .val (.ref b84), .unset, .unset, .unset, .unset, .unset] [(.int y5), (.ref v1), (.ref b88), (.ref b88)])) rfl (by rw [hml]; rfl) (Steps.refl _) (a := b88) (argsL := [(.ref v1), (.int y5)]) (rest := [(.ref b88)]) (lenOf pd_2 rfl) rfl (by show 2 * 0 + _ ≤ _; exact Nat.le_of_eq rfl) (hb hby at_112) (fun _ _ => ⟨rfl, e88, (by decide : 5 + 2 ≤ _), (by decide : 28 + 20 ≤ _)⟩)
        dsimp only [Pt.U, Pt.locs, Pt.cells, Pt.slots] at Xa94 l94 y94 z94 st94 hQ94 hSi94 hgr94
        subst l94 y94 z94
        obtain ⟨X94, hS94, hZ94, hown94⟩ := rebS (s := s) (vm0 := T87.vm) hS87 (n1 := T88.heap.size) (by rw [e88]; exact (Nat.le_trans (Nat.le_refl _) E88.1)) Xa94 hSi94 hgr94 hZ87 hown87
        obtain ⟨rfl, Nq94, K94, u94_0, u94_1⟩ := hQ94
        have KK94 : Keep h0 T94.heap [] := KK88.trans K94 (allS (Or.inr sz_b88) all0)
        have OL94 := OL88.keep K94 (allS g_b88 all0)
        have N94 := Fr.app N87 Nq94
        have pre95 : ∀ t, Steps p.tables e below (T94.setTop (mkF m 127 #[.val (.int p1), .val (.int p2), .val (.int p3), .val (.int p4), .val (.int p5), .val (.ref b1), .val (.int y1), .val (.int y3), .val (.int y5), .val (.int y5), .val (.ref b84), .val (.ref b88), .val (.int y10), .unset, .unset, .unset] [(.int y10)])) t → Steps p.tables e below (s₁.setTop (entryFrame m #[(.int p1), (.int p2), (.int p3), (.int p4), (.int p5)] maxLocals)) t := by
          intro t kt
          refine pre91 _ ?_
          show Steps p.tables e below (T88.setTop (mkF m 109 #[.val (.int p1), .val (.int p2), .val (.int p3), .val (.int p4), .val (.int p5), .val (.ref b1), .val (.int y1), .val (.int y3), .val (.int y5), .val (.int y5), .val (.ref b84), .unset, .unset, .unset, .unset, .unset] [(.int y3), (.ref b1), (.ref b88), (.ref b88)])) _
          refine X88.aaload hx (j := y3) (v := (.ref v1)) (by rw [e88]; exact Ar93.1) (State.isArrayOf_alike hZ87.alike Ar93.2.1) rfl Ar93.2.2 hin93 hat93 (g := (mkF m 109 #[.val (.int p1), .val (.int p2), .val (.int p3), .val (.int p4), .val (.int p5), .val (.ref b1), .val (.int y1), .val (.int y3), .val (.int y5), .val (.int y5), .val (.ref b84), .unset, .unset, .unset, .unset, .unset] [(.int y3), (.ref b1), (.ref b88), (.ref b88)])) rfl rfl (hb hby at_109) _ ?_
          show Steps p.tables e below (T88.setTop (mkF m 110 #[.val (.int p1), .val (.int p2), .val (.int p3), .val (.int p4), .val (.int p5), .val (.ref b1), .val (.int y1), .val (.int y3), .val (.int y5), .val (.int y5), .val (.ref b84), .unset, .unset, .unset, .unset, .unset] [(.ref v1), (.ref b88), (.ref b88)])) _
          refine XS.iload X88.here hx rfl (hb hby at_110) rfl ?_
          show Steps p.tables e below (T88.setTop (mkF m 112 #[.val (.int p1), .val (.int p2), .val (.int p3), .val (.int p4), .val (.int p5), .val (.ref b1), .val (.int y1), .val (.int y3), .val (.int y5), .val (.int y5), .val (.ref b84), .unset, .unset, .unset, .unset, .unset] [(.int y5), (.ref v1), (.ref b88), (.ref b88)])) _
          refine st94.trans ?_
          show Steps p.tables e below (T94.setTop (mkF m 115 #[.val (.int p1), .val (.int p2), .val (.int p3), .val (.int p4), .val (.int p5), .val (.ref b1), .val (.int y1), .val (.int y3), .val (.int y5), .val (.int y5), .val (.ref b84), .unset, .unset, .unset, .unset, .unset] [(.ref b88)])) _
          refine XS.astore X94.here hx rfl (hb hby at_115) rfl rfl (l' := #[.val (.int p1), .val (.int p2), .val (.int p3), .val (.int p4), .val (.int p5), .val (.ref b1), .val (.int y1), .val (.int y3), .val (.int y5), .val (.int y5), .val (.ref b84), .val (.ref b88), .unset, .unset, .unset, .unset]) rfl ?_
          refine XS.iload X94.here hx rfl (hb hby at_117) rfl ?_
          refine XS.iconst X94.here hx rfl (hb hby at_119) ?_
          show Steps p.tables e below (T94.setTop (mkF m 120 #[.val (.int p1), .val (.int p2), .val (.int p3), .val (.int p4), .val (.int p5), .val (.ref b1), .val (.int y1), .val (.int y3), .val (.int y5), .val (.int y5), .val (.ref b84), .val (.ref b88), .unset, .unset, .unset, .unset] [(.int (1 : Int32)), (.int p5)])) _
          refine XS.iushr X94.here hx rfl (hb hby at_120) rfl ?_
          show Steps p.tables e below (T94.setTop (mkF m 121 #[.val (.int p1), .val (.int p2), .val (.int p3), .val (.int p4), .val (.int p5), .val (.ref b1), .val (.int y1), .val (.int y3), .val (.int y5), .val (.int y5), .val (.ref b84), .val (.ref b88), .unset, .unset, .unset, .unset] [(.int ((p5.toUInt32 >>> ((1 : Int32) &&& 31).toUInt32).toInt32))])) _
          rw [pr24]
          show Steps p.tables e below (T94.setTop (mkF m 121 #[.val (.int p1), .val (.int p2), .val (.int p3), .val (.int p4), .val (.int p5), .val (.ref b1), .val (.int y1), .val (.int y3), .val (.int y5), .val (.int y5), .val (.ref b84), .val (.ref b88), .unset, .unset, .unset, .unset] [(.int y9)])) _
          refine XS.iconst X94.here hx rfl (hb hby at_121) ?_
          show Steps p.tables e below (T94.setTop (mkF m 122 #[.val (.int p1), .val (.int p2), .val (.int p3), .val (.int p4), .val (.int p5), .val (.ref b1), .val (.int y1), .val (.int y3), .val (.int y5), .val (.int y5), .val (.ref b84), .val (.ref b88), .unset, .unset, .unset, .unset] [(.int (3 : Int32)), (.int y9)])) _
          refine XS.iand X94.here hx rfl (hb hby at_122) rfl ?_
          show Steps p.tables e below (T94.setTop (mkF m 123 #[.val (.int p1), .val (.int p2), .val (.int p3), .val (.int p4), .val (.int p5), .val (.ref b1), .val (.int y1), .val (.int y3), .val (.int y5), .val (.int y5), .val (.ref b84), .val (.ref b88), .unset, .unset, .unset, .unset] [(.int (y9 &&& (3 : Int32)))])) _
          rw [pr25]
          show Steps p.tables e below (T94.setTop (mkF m 123 #[.val (.int p1), .val (.int p2), .val (.int p3), .val (.int p4), .val (.int p5), .val (.ref b1), .val (.int y1), .val (.int y3), .val (.int y5), .val (.int y5), .val (.ref b84), .val (.ref b88), .unset, .unset, .unset, .unset] [(.int y10)])) _
          refine XS.istore X94.here hx rfl (hb hby at_123) rfl (l' := #[.val (.int p1), .val (.int p2), .val (.int p3), .val (.int p4), .val (.int p5), .val (.ref b1), .val (.int y1), .val (.int y3), .val (.int y5), .val (.int y5), .val (.ref b84), .val (.ref b88), .val (.int y10), .unset, .unset, .unset]) rfl ?_
          refine XS.iload X94.here hx rfl (hb hby at_125) rfl ?_
          exact kt
        by_cases hf95 : y10 = (0 : Int32)
        · have fc97 := (A88.keep K94)
          have fc98 := ((u87_0.ext E88).keep K94 (ninS (Nat.ne_of_lt (Nat.lt_of_lt_of_le u87_1.lt (Nat.le_of_eq g88.symm))) nin0))
          have fc99 := ((u87_1.ext E88).keep K94 (ninS (Nat.ne_of_lt (Nat.lt_of_lt_of_le u87_1.lt (Nat.le_of_eq g88.symm))) nin0))
          have fc100 := (((A84.keep K87).ext E88).keep K94)
          obtain ⟨cq96, kq96, q96a, q96b, q96c⟩ := isOf hZ94 rfl fc100
          obtain ⟨_, _, ⟨T96, L96, k96, n96⟩, -, X96, ⟨Lc96, hQ96, l96, y96, z96⟩, st96⟩ := X94.virtualBack hx (y := (⟨"com/example/larch/larch/model/Interval", "equals", "(Ljava/lang/Object;)Z"⟩ : MethodName)) (z := (⟨"com/example/larch/larch/model/Interval", "equals", "(Ljava/lang/Object;)Z"⟩ : MethodName)) hown94 (mvT hZ94 (wd42 hw)) (mvT hZ94 (wd43 hw)) (notFace_of_selects (args := #[]) (mvT hZ94 (wd45 hw))) (mvT hZ94 (wd45 hw)) (mvT hZ94 (wd44 hw)) (by decide) (backOf (W := 0) (rm5_7 l Z a0 hw [] b84 b88 v1 y5 T94.heap n0 OL94 fc97 fc98 u94_0 fc99 u94_1) hZ94 (wd46 hw) (wd19 hw) (by decide) (by decide)) q96a q96c (g := (mkF m 203 #[.val (.int p1), .val (.int p2), .val (.int p3), .val (.int p4), .val (.int p5), .val (.ref b1), .val (.int y1), .val (.int y3), .val (.int y5), .val (.int y5), .val (.ref b84), .val (.ref b88), .val (.int y10), .val (.ref b88), .val (.int (1 : Int32)), .unset] [(.ref b88), (.ref b84)])) rfl (by rw [hml]; rfl) (Steps.refl _) (argsL := [(.ref b88)]) (rest := []) (lenOf pd_3 rfl) rfl (by show 2 * 0 + _ ≤ _; exact Nat.le_of_eq rfl) (hb hby at_203) (fun _ _ => ⟨rfl, rfl, (by decide : 7 + 0 ≤ _), (by decide : 48 + 0 ≤ _)⟩)
          dsimp only [Pt.U, Pt.locs, Pt.cells, Pt.slots] at X96 l96 y96 z96 st96 hQ96
          subst l96 y96 z96
          obtain ⟨rfl, Nq96, ec96⟩ := hQ96
          have N96 := Fr.app N94 Nq96
          obtain ⟨cq101, kq101, q101a, q101b, q101c⟩ := isOf hZ94 ec96 fc97
          obtain ⟨_, _, ⟨T101, L101, k101, n101⟩, -, X101, ⟨Lc101, hQ101, l101, y101, z101⟩, st101⟩ := X96.virtualBack hx (y := (⟨"com/example/larch/larch/model/Interval", "equals", "(Ljava/lang/Object;)Z"⟩ : MethodName)) (z := (⟨"com/example/larch/larch/model/Interval", "equals", "(Ljava/lang/Object;)Z"⟩ : MethodName)) hown94 (mvT hZ94 (wd42 hw)) (mvT hZ94 (wd43 hw)) (notFace_of_selects (args := #[]) (mvT hZ94 (wd45 hw))) (mvT hZ94 (wd45 hw)) (mvT hZ94 (wd44 hw)) (by decide) (backOf (W := 0) (rm5_7 l Z a0 hw [] b88 b84 v1 y5 T94.heap n0 OL94 fc100 u94_0 fc98 u94_1 fc99) hZ94 (wd46 hw) (wd19 hw) (by decide) (by decide)) q101a q101c (g := (mkF m 226 #[.val (.int p1), .val (.int p2), .val (.int p3), .val (.int p4), .val (.int p5), .val (.ref b1), .val (.int y1), .val (.int y3), .val (.int y5), .val (.int y5), .val (.ref b84), .val (.ref b88), .val (.int y10), .val (.ref b88), .val (.int (1 : Int32)), .val (.int (1 : Int32))] [(.ref b84), (.ref b88)])) rfl (by rw [hml]; rfl) (Steps.refl _) (argsL := [(.ref b84)]) (rest := []) (lenOf pd_3 rfl) rfl (by show 2 * 0 + _ ≤ _; exact Nat.le_of_eq rfl) (hb hby at_226) (fun _ _ => ⟨rfl, ec96, (by decide : 7 + 0 ≤ _), (by decide : 48 + 0 ≤ _)⟩)
          dsimp only [Pt.U, Pt.locs, Pt.cells, Pt.slots] at X101 l101 y101 z101 st101 hQ101
          subst l101 y101 z101
          obtain ⟨rfl, Nq101, ec101⟩ := hQ101
          have N101 := Fr.app N96 Nq101
          obtain ⟨fs, hr, hrun, hended, hRW⟩ := X101.leaveW (s := s) hS94 (by rw [ec101]; exact (Nat.le_refl _)) (v := some (.int (1 : Int32))) (fun h => by rw [Bd.returns] at h; cases h)
          refine ⟨_, _, pre95 _ ?_, hrun, hended, _, _, rfl, ⟨rfl, N101⟩, hRW.1, hRW.2.1, hRW.2.2.1, hRW.2.2.2.mono (by decide) (by decide)⟩
          show Steps p.tables e below (T94.setTop (mkF m 127 #[.val (.int p1), .val (.int p2), .val (.int p3), .val (.int p4), .val (.int p5), .val (.ref b1), .val (.int y1), .val (.int y3), .val (.int y5), .val (.int y5), .val (.ref b84), .val (.ref b88), .val (.int y10), .unset, .unset, .unset] [(.int y10)])) _
          refine XS.ifNo X94.here hx rfl (hb hby at_127) rfl ((if0 _ _).trans (teq hf95).2) ?_
          show Steps p.tables e below (T94.setTop (mkF m 130 #[.val (.int p1), .val (.int p2), .val (.int p3), .val (.int p4), .val (.int p5), .val (.ref b1), .val (.int y1), .val (.int y3), .val (.int y5), .val (.int y5), .val (.ref b84), .val (.ref b88), .val (.int y10), .unset, .unset, .unset] [])) _
          refine XS.aload X94.here hx rfl (hb hby at_130) rfl rfl ?_
          refine XS.astore X94.here hx rfl (hb hby at_132) rfl rfl (l' := #[.val (.int p1), .val (.int p2), .val (.int p3), .val (.int p4), .val (.int p5), .val (.ref b1), .val (.int y1), .val (.int y3), .val (.int y5), .val (.int y5), .val (.ref b84), .val (.ref b88), .val (.int y10), .val (.ref b88), .unset, .unset]) rfl ?_
          refine XS.iload X94.here hx rfl (hb hby at_134) rfl ?_
          refine XS.iload X94.here hx rfl (hb hby at_136) rfl ?_
          show Steps p.tables e below (T94.setTop (mkF m 138 #[.val (.int p1), .val (.int p2), .val (.int p3), .val (.int p4), .val (.int p5), .val (.ref b1), .val (.int y1), .val (.int y3), .val (.int y5), .val (.int y5), .val (.ref b84), .val (.ref b88), .val (.int y10), .val (.ref b88), .unset, .unset] [(.int y3), (.int y1)])) _
          refine XS.icmpNo X94.here hx rfl (hb hby at_138) rfl (teq hf91).2 ?_
          show Steps p.tables e below (T94.setTop (mkF m 141 #[.val (.int p1), .val (.int p2), .val (.int p3), .val (.int p4), .val (.int p5), .val (.ref b1), .val (.int y1), .val (.int y3), .val (.int y5), .val (.int y5), .val (.ref b84), .val (.ref b88), .val (.int y10), .val (.ref b88), .unset, .unset] [])) _
          refine XS.iload X94.here hx rfl (hb hby at_141) rfl ?_
          refine XS.iload X94.here hx rfl (hb hby at_143) rfl ?_
          show Steps p.tables e below (T94.setTop (mkF m 145 #[.val (.int p1), .val (.int p2), .val (.int p3), .val (.int p4), .val (.int p5), .val (.ref b1), .val (.int y1), .val (.int y3), .val (.int y5), .val (.int y5), .val (.ref b84), .val (.ref b88), .val (.int y10), .val (.ref b88), .unset, .unset] [(.int y5), (.int y5)])) _
          refine XS.icmpNo X94.here hx rfl (hb hby at_145) rfl (teq (rfl : y5 = y5)).2 ?_
          show Steps p.tables e below (T94.setTop (mkF m 148 #[.val (.int p1), .val (.int p2), .val (.int p3), .val (.int p4), .val (.int p5), .val (.ref b1), .val (.int y1), .val (.int y3), .val (.int y5), .val (.int y5), .val (.ref b84), .val (.ref b88), .val (.int y10), .val (.ref b88), .unset, .unset] [])) _
          refine XS.iconst X94.here hx rfl (hb hby at_148) ?_
          refine XS.goto X94.here hx rfl (pc0 := 149) (pc' := 153) rfl (hb hby at_149) (by decide) (by decide) ?_
          refine XS.istore X94.here hx rfl (hb hby at_153) rfl (l' := #[.val (.int p1), .val (.int p2), .val (.int p3), .val (.int p4), .val (.int p5), .val (.ref b1), .val (.int y1), .val (.int y3), .val (.int y5), .val (.int y5), .val (.ref b84), .val (.ref b88), .val (.int y10), .val (.ref b88), .val (.int (1 : Int32)), .unset]) rfl ?_
          refine XS.goto X94.here hx rfl (pc0 := 155) (pc' := 199) rfl (hb hby at_155) (by decide) (by decide) ?_
          show Steps p.tables e below (T94.setTop (mkF m 199 #[.val (.int p1), .val (.int p2), .val (.int p3), .val (.int p4), .val (.int p5), .val (.ref b1), .val (.int y1), .val (.int y3), .val (.int y5), .val (.int y5), .val (.ref b84), .val (.ref b88), .val (.int y10), .val (.ref b88), .val (.int (1 : Int32)), .unset] [])) _
          refine XS.aload X94.here hx rfl (hb hby at_199) rfl rfl ?_
          refine XS.aload X94.here hx rfl (hb hby at_201) rfl rfl ?_
          show Steps p.tables e below (T94.setTop (mkF m 203 #[.val (.int p1), .val (.int p2), .val (.int p3), .val (.int p4), .val (.int p5), .val (.ref b1), .val (.int y1), .val (.int y3), .val (.int y5), .val (.int y5), .val (.ref b84), .val (.ref b88), .val (.int y10), .val (.ref b88), .val (.int (1 : Int32)), .unset] [(.ref b88), (.ref b84)])) _
          refine st96.trans ?_
          show Steps p.tables e below (T96.setTop (mkF m 206 #[.val (.int p1), .val (.int p2), .val (.int p3), .val (.int p4), .val (.int p5), .val (.ref b1), .val (.int y1), .val (.int y3), .val (.int y5), .val (.int y5), .val (.ref b84), .val (.ref b88), .val (.int y10), .val (.ref b88), .val (.int (1 : Int32)), .unset] [(.int (1 : Int32))])) _
          refine XS.istore X96.here hx rfl (hb hby at_206) rfl (l' := #[.val (.int p1), .val (.int p2), .val (.int p3), .val (.int p4), .val (.int p5), .val (.ref b1), .val (.int y1), .val (.int y3), .val (.int y5), .val (.int y5), .val (.ref b84), .val (.ref b88), .val (.int y10), .val (.ref b88), .val (.int (1 : Int32)), .val (.int (1 : Int32))]) rfl ?_
          refine XS.iload X96.here hx rfl (hb hby at_208) rfl ?_
          refine XS.iload X96.here hx rfl (hb hby at_210) rfl ?_
          show Steps p.tables e below (T96.setTop (mkF m 212 #[.val (.int p1), .val (.int p2), .val (.int p3), .val (.int p4), .val (.int p5), .val (.ref b1), .val (.int y1), .val (.int y3), .val (.int y5), .val (.int y5), .val (.ref b84), .val (.ref b88), .val (.int y10), .val (.ref b88), .val (.int (1 : Int32)), .val (.int (1 : Int32))] [(.int (1 : Int32)), (.int (1 : Int32))])) _
          refine XS.icmpYes X96.here hx rfl (pc0 := 212) (pc' := 217) rfl (hb hby at_212) rfl (teq (rfl : (1 : Int32) = (1 : Int32))).1 (by decide) (by decide) ?_
          show Steps p.tables e below (T96.setTop (mkF m 217 #[.val (.int p1), .val (.int p2), .val (.int p3), .val (.int p4), .val (.int p5), .val (.ref b1), .val (.int y1), .val (.int y3), .val (.int y5), .val (.int y5), .val (.ref b84), .val (.ref b88), .val (.int y10), .val (.ref b88), .val (.int (1 : Int32)), .val (.int (1 : Int32))] [])) _
          refine XS.iload X96.here hx rfl (hb hby at_217) rfl ?_
          show Steps p.tables e below (T96.setTop (mkF m 219 #[.val (.int p1), .val (.int p2), .val (.int p3), .val (.int p4), .val (.int p5), .val (.ref b1), .val (.int y1), .val (.int y3), .val (.int y5), .val (.int y5), .val (.ref b84), .val (.ref b88), .val (.int y10), .val (.ref b88), .val (.int (1 : Int32)), .val (.int (1 : Int32))] [(.int y10)])) _
          refine XS.ifNo X96.here hx rfl (hb hby at_219) rfl ((if0 _ _).trans (teq hf95).2) ?_
          show Steps p.tables e below (T96.setTop (mkF m 222 #[.val (.int p1), .val (.int p2), .val (.int p3), .val (.int p4), .val (.int p5), .val (.ref b1), .val (.int y1), .val (.int y3), .val (.int y5), .val (.int y5), .val (.ref b84), .val (.ref b88), .val (.int y10), .val (.ref b88), .val (.int (1 : Int32)), .val (.int (1 : Int32))] [])) _
          refine XS.aload X96.here hx rfl (hb hby at_222) rfl rfl ?_
          refine XS.aload X96.here hx rfl (hb hby at_224) rfl rfl ?_
          show Steps p.tables e below (T96.setTop (mkF m 226 #[.val (.int p1), .val (.int p2), .val (.int p3), .val (.int p4), .val (.int p5), .val (.ref b1), .val (.int y1), .val (.int y3), .val (.int y5), .val (.int y5), .val (.ref b84), .val (.ref b88), .val (.int y10), .val (.ref b88), .val (.int (1 : Int32)), .val (.int (1 : Int32))] [(.ref b84), (.ref b88)])) _
          refine st101.trans ?_
          show Steps p.tables e below (T101.setTop (mkF m 229 #[.val (.int p1), .val (.int p2), .val (.int p3), .val (.int p4), .val (.int p5), .val (.ref b1), .val (.int y1), .val (.int y3), .val (.int y5), .val (.int y5), .val (.ref b84), .val (.ref b88), .val (.int y10), .val (.ref b88), .val (.int (1 : Int32)), .val (.int (1 : Int32))] [(.int (1 : Int32))])) _
          refine XS.iload X101.here hx rfl (hb hby at_229) rfl ?_
          show Steps p.tables e below (T101.setTop (mkF m 231 #[.val (.int p1), .val (.int p2), .val (.int p3), .val (.int p4), .val (.int p5), .val (.ref b1), .val (.int y1), .val (.int y3), .val (.int y5), .val (.int y5), .val (.ref b84), .val (.ref b88), .val (.int y10), .val (.ref b88), .val (.int (1 : Int32)), .val (.int (1 : Int32))] [(.int (1 : Int32)), (.int (1 : Int32))])) _
          refine XS.icmpNo X101.here hx rfl (hb hby at_231) rfl (teq (rfl : (1 : Int32) = (1 : Int32))).2 ?_
          show Steps p.tables e below (T101.setTop (mkF m 234 #[.val (.int p1), .val (.int p2), .val (.int p3), .val (.int p4), .val (.int p5), .val (.ref b1), .val (.int y1), .val (.int y3), .val (.int y5), .val (.int y5), .val (.ref b84), .val (.ref b88), .val (.int y10), .val (.ref b88), .val (.int (1 : Int32)), .val (.int (1 : Int32))] [])) _
          refine XS.iconst X101.here hx rfl (hb hby at_234) ?_
          refine XS.goto X101.here hx rfl (pc0 := 235) (pc' := 239) rfl (hb hby at_235) (by decide) (by decide) ?_
          show Steps p.tables e below (T101.setTop (mkF m 239 #[.val (.int p1), .val (.int p2), .val (.int p3), .val (.int p4), .val (.int p5), .val (.ref b1), .val (.int y1), .val (.int y3), .val (.int y5), .val (.int y5), .val (.ref b84), .val (.ref b88), .val (.int y10), .val (.ref b88), .val (.int (1 : Int32)), .val (.int (1 : Int32))] [(.int (1 : Int32))])) _
          exact retN X101 hx (t := .boolean) Bd.returns (by simp) (hb hby at_239) hr
        · have pre102 : ∀ t, Steps p.tables e below (T94.setTop (mkF m 161 #[.val (.int p1), .val (.int p2), .val (.int p3), .val (.int p4), .val (.int p5), .val (.ref b1), .val (.int y1), .val (.int y3), .val (.int y5), .val (.int y5), .val (.ref b84), .val (.ref b88), .val (.int y10), .unset, .unset, .unset] [(.int (1 : Int32)), (.int y10)])) t → Steps p.tables e below (s₁.setTop (entryFrame m #[(.int p1), (.int p2), (.int p3), (.int p4), (.int p5)] maxLocals)) t := by
            intro t kt
            refine pre95 _ ?_
            show Steps p.tables e below (T94.setTop (mkF m 127 #[.val (.int p1), .val (.int p2), .val (.int p3), .val (.int p4), .val (.int p5), .val (.ref b1), .val (.int y1), .val (.int y3), .val (.int y5), .val (.int y5), .val (.ref b84), .val (.ref b88), .val (.int y10), .unset, .unset, .unset] [(.int y10)])) _
            refine XS.ifYes X94.here hx rfl (pc0 := 127) (pc' := 158) rfl (hb hby at_127) rfl ((if0 _ _).trans (feq hf95).2) (by decide) (by decide) ?_
            show Steps p.tables e below (T94.setTop (mkF m 158 #[.val (.int p1), .val (.int p2), .val (.int p3), .val (.int p4), .val (.int p5), .val (.ref b1), .val (.int y1), .val (.int y3), .val (.int y5), .val (.int y5), .val (.ref b84), .val (.ref b88), .val (.int y10), .unset, .unset, .unset] [])) _
            refine XS.iload X94.here hx rfl (hb hby at_158) rfl ?_
            refine XS.iconst X94.here hx rfl (hb hby at_160) ?_
            exact kt
          by_cases hf102 : y10 = (1 : Int32)
          · have fc104 := (((A84.keep K87).ext E88).keep K94)
            obtain ⟨cq103, kq103, q103a, q103b, q103c⟩ := isOf hZ94 rfl fc104
            obtain ⟨_, _, ⟨T103, L103, k103, n103⟩, -, X103, ⟨Lc103, hQ103, l103, y103, z103⟩, st103⟩ := X94.virtualBack hx (y := (⟨"com/example/larch/larch/model/Interval", "equals", "(Ljava/lang/Object;)Z"⟩ : MethodName)) (z := (⟨"com/example/larch/larch/model/Interval", "equals", "(Ljava/lang/Object;)Z"⟩ : MethodName)) hown94 (mvT hZ94 (wd42 hw)) (mvT hZ94 (wd43 hw)) (notFace_of_selects (args := #[]) (mvT hZ94 (wd45 hw))) (mvT hZ94 (wd45 hw)) (mvT hZ94 (wd44 hw)) (by decide) (backOf (W := 0) (rm5_2 l Z a0 hw [] b84 T94.heap n0 OL94 ) hZ94 (wd46 hw) (wd19 hw) (by decide) (by decide)) q103a q103c (g := (mkF m 203 #[.val (.int p1), .val (.int p2), .val (.int p3), .val (.int p4), .val (.int p5), .val (.ref b1), .val (.int y1), .val (.int y3), .val (.int y5), .val (.int y5), .val (.ref b84), .val (.ref b88), .val (.int y10), .val .null, .val (.int (0 : Int32)), .unset] [.null, (.ref b84)])) rfl (by rw [hml]; rfl) (Steps.refl _) (argsL := [.null]) (rest := []) (lenOf pd_3 rfl) rfl (by show 2 * 0 + _ ≤ _; exact Nat.le_of_eq rfl) (hb hby at_203) (fun _ _ => ⟨rfl, rfl, (by decide : 7 + 0 ≤ _), (by decide : 48 + 0 ≤ _)⟩)
            dsimp only [Pt.U, Pt.locs, Pt.cells, Pt.slots] at X103 l103 y103 z103 st103 hQ103
            subst l103 y103 z103
            obtain ⟨rfl, Nq103, ec103⟩ := hQ103
            have N103 := Fr.app N94 Nq103
            obtain ⟨fs, hr, hrun, hended, hRW⟩ := X103.leaveW (s := s) hS94 (by rw [ec103]; exact (Nat.le_refl _)) (v := some (.int (1 : Int32))) (fun h => by rw [Bd.returns] at h; cases h)
            refine ⟨_, _, pre102 _ ?_, hrun, hended, _, _, rfl, ⟨rfl, N103⟩, hRW.1, hRW.2.1, hRW.2.2.1, hRW.2.2.2.mono (by decide) (by decide)⟩
            show Steps p.tables e below (T94.setTop (mkF m 161 #[.val (.int p1), .val (.int p2), .val (.int p3), .val (.int p4), .val (.int p5), .val (.ref b1), .val (.int y1), .val (.int y3), .val (.int y5), .val (.int y5), .val (.ref b84), .val (.ref b88), .val (.int y10), .unset, .unset, .unset] [(.int (1 : Int32)), (.int y10)])) _
            refine XS.icmpNo X94.here hx rfl (hb hby at_161) rfl (teq hf102).2 ?_
            show Steps p.tables e below (T94.setTop (mkF m 164 #[.val (.int p1), .val (.int p2), .val (.int p3), .val (.int p4), .val (.int p5), .val (.ref b1), .val (.int y1), .val (.int y3), .val (.int y5), .val (.int y5), .val (.ref b84), .val (.ref b88), .val (.int y10), .unset, .unset, .unset] [])) _
            refine XS.aconstNull X94.here hx rfl (hb hby at_164) ?_
            refine XS.astore X94.here hx rfl (hb hby at_165) rfl rfl (l' := #[.val (.int p1), .val (.int p2), .val (.int p3), .val (.int p4), .val (.int p5), .val (.ref b1), .val (.int y1), .val (.int y3), .val (.int y5), .val (.int y5), .val (.ref b84), .val (.ref b88), .val (.int y10), .val .null, .unset, .unset]) rfl ?_
            refine XS.iconst X94.here hx rfl (hb hby at_167) ?_
            refine XS.istore X94.here hx rfl (hb hby at_168) rfl (l' := #[.val (.int p1), .val (.int p2), .val (.int p3), .val (.int p4), .val (.int p5), .val (.ref b1), .val (.int y1), .val (.int y3), .val (.int y5), .val (.int y5), .val (.ref b84), .val (.ref b88), .val (.int y10), .val .null, .val (.int (0 : Int32)), .unset]) rfl ?_
            show Steps p.tables e below (T94.setTop (mkF m 170 #[.val (.int p1), .val (.int p2), .val (.int p3), .val (.int p4), .val (.int p5), .val (.ref b1), .val (.int y1), .val (.int y3), .val (.int y5), .val (.int y5), .val (.ref b84), .val (.ref b88), .val (.int y10), .val .null, .val (.int (0 : Int32)), .unset] [])) _
            refine XS.goto X94.here hx rfl (pc0 := 170) (pc' := 199) rfl (hb hby at_170) (by decide) (by decide) ?_
            refine XS.aload X94.here hx rfl (hb hby at_199) rfl rfl ?_
            refine XS.aload X94.here hx rfl (hb hby at_201) rfl rfl ?_
            show Steps p.tables e below (T94.setTop (mkF m 203 #[.val (.int p1), .val (.int p2), .val (.int p3), .val (.int p4), .val (.int p5), .val (.ref b1), .val (.int y1), .val (.int y3), .val (.int y5), .val (.int y5), .val (.ref b84), .val (.ref b88), .val (.int y10), .val .null, .val (.int (0 : Int32)), .unset] [.null, (.ref b84)])) _
            refine st103.trans ?_
            show Steps p.tables e below (T103.setTop (mkF m 206 #[.val (.int p1), .val (.int p2), .val (.int p3), .val (.int p4), .val (.int p5), .val (.ref b1), .val (.int y1), .val (.int y3), .val (.int y5), .val (.int y5), .val (.ref b84), .val (.ref b88), .val (.int y10), .val .null, .val (.int (0 : Int32)), .unset] [(.int (0 : Int32))])) _
            refine XS.istore X103.here hx rfl (hb hby at_206) rfl (l' := #[.val (.int p1), .val (.int p2), .val (.int p3), .val (.int p4), .val (.int p5), .val (.ref b1), .val (.int y1), .val (.int y3), .val (.int y5), .val (.int y5), .val (.ref b84), .val (.ref b88), .val (.int y10), .val .null, .val (.int (0 : Int32)), .val (.int (0 : Int32))]) rfl ?_
            refine XS.iload X103.here hx rfl (hb hby at_208) rfl ?_
            refine XS.iload X103.here hx rfl (hb hby at_210) rfl ?_
            show Steps p.tables e below (T103.setTop (mkF m 212 #[.val (.int p1), .val (.int p2), .val (.int p3), .val (.int p4), .val (.int p5), .val (.ref b1), .val (.int y1), .val (.int y3), .val (.int y5), .val (.int y5), .val (.ref b84), .val (.ref b88), .val (.int y10), .val .null, .val (.int (0 : Int32)), .val (.int (0 : Int32))] [(.int (0 : Int32)), (.int (0 : Int32))])) _
            refine XS.icmpYes X103.here hx rfl (pc0 := 212) (pc' := 217) rfl (hb hby at_212) rfl (teq (rfl : (0 : Int32) = (0 : Int32))).1 (by decide) (by decide) ?_
            show Steps p.tables e below (T103.setTop (mkF m 217 #[.val (.int p1), .val (.int p2), .val (.int p3), .val (.int p4), .val (.int p5), .val (.ref b1), .val (.int y1), .val (.int y3), .val (.int y5), .val (.int y5), .val (.ref b84), .val (.ref b88), .val (.int y10), .val .null, .val (.int (0 : Int32)), .val (.int (0 : Int32))] [])) _
            refine XS.iload X103.here hx rfl (hb hby at_217) rfl ?_
            show Steps p.tables e below (T103.setTop (mkF m 219 #[.val (.int p1), .val (.int p2), .val (.int p3), .val (.int p4), .val (.int p5), .val (.ref b1), .val (.int y1), .val (.int y3), .val (.int y5), .val (.int y5), .val (.ref b84), .val (.ref b88), .val (.int y10), .val .null, .val (.int (0 : Int32)), .val (.int (0 : Int32))] [(.int y10)])) _
            refine XS.ifYes X103.here hx rfl (pc0 := 219) (pc' := 240) rfl (hb hby at_219) rfl ((if0 _ _).trans (feq hf95).2) (by decide) (by decide) ?_
            show Steps p.tables e below (T103.setTop (mkF m 240 #[.val (.int p1), .val (.int p2), .val (.int p3), .val (.int p4), .val (.int p5), .val (.ref b1), .val (.int y1), .val (.int y3), .val (.int y5), .val (.int y5), .val (.ref b84), .val (.ref b88), .val (.int y10), .val .null, .val (.int (0 : Int32)), .val (.int (0 : Int32))] [])) _
            refine XS.iconst X103.here hx rfl (hb hby at_240) ?_
            show Steps p.tables e below (T103.setTop (mkF m 241 #[.val (.int p1), .val (.int p2), .val (.int p3), .val (.int p4), .val (.int p5), .val (.ref b1), .val (.int y1), .val (.int y3), .val (.int y5), .val (.int y5), .val (.ref b84), .val (.ref b88), .val (.int y10), .val .null, .val (.int (0 : Int32)), .val (.int (0 : Int32))] [(.int (1 : Int32))])) _
            exact retN X103 hx (t := .boolean) Bd.returns (by simp) (hb hby at_241) hr
          · have pre105 : ∀ t, Steps p.tables e below (T94.setTop (mkF m 176 #[.val (.int p1), .val (.int p2), .val (.int p3), .val (.int p4), .val (.int p5), .val (.ref b1), .val (.int y1), .val (.int y3), .val (.int y5), .val (.int y5), .val (.ref b84), .val (.ref b88), .val (.int y10), .unset, .unset, .unset] [(.int (2 : Int32)), (.int y10)])) t → Steps p.tables e below (s₁.setTop (entryFrame m #[(.int p1), (.int p2), (.int p3), (.int p4), (.int p5)] maxLocals)) t := by
              intro t kt
              refine pre102 _ ?_
              show Steps p.tables e below (T94.setTop (mkF m 161 #[.val (.int p1), .val (.int p2), .val (.int p3), .val (.int p4), .val (.int p5), .val (.ref b1), .val (.int y1), .val (.int y3), .val (.int y5), .val (.int y5), .val (.ref b84), .val (.ref b88), .val (.int y10), .unset, .unset, .unset] [(.int (1 : Int32)), (.int y10)])) _
              refine XS.icmpYes X94.here hx rfl (pc0 := 161) (pc' := 173) rfl (hb hby at_161) rfl (feq hf102).2 (by decide) (by decide) ?_
              show Steps p.tables e below (T94.setTop (mkF m 173 #[.val (.int p1), .val (.int p2), .val (.int p3), .val (.int p4), .val (.int p5), .val (.ref b1), .val (.int y1), .val (.int y3), .val (.int y5), .val (.int y5), .val (.ref b84), .val (.ref b88), .val (.int y10), .unset, .unset, .unset] [])) _
              refine XS.iload X94.here hx rfl (hb hby at_173) rfl ?_
              refine XS.iconst X94.here hx rfl (hb hby at_175) ?_
              exact kt
            by_cases hf105 : y10 = (2 : Int32)
            · have pre106 : ∀ t, Steps p.tables e below (T94.setTop (mkF m 181 #[.val (.int p1), .val (.int p2), .val (.int p3), .val (.int p4), .val (.int p5), .val (.ref b1), .val (.int y1), .val (.int y3), .val (.int y5), .val (.int y5), .val (.ref b84), .val (.ref b88), .val (.int y10), .unset, .unset, .unset] [(.int y5)])) t → Steps p.tables e below (s₁.setTop (entryFrame m #[(.int p1), (.int p2), (.int p3), (.int p4), (.int p5)] maxLocals)) t := by
                intro t kt
                refine pre105 _ ?_
                show Steps p.tables e below (T94.setTop (mkF m 176 #[.val (.int p1), .val (.int p2), .val (.int p3), .val (.int p4), .val (.int p5), .val (.ref b1), .val (.int y1), .val (.int y3), .val (.int y5), .val (.int y5), .val (.ref b84), .val (.ref b88), .val (.int y10), .unset, .unset, .unset] [(.int (2 : Int32)), (.int y10)])) _
                refine XS.icmpNo X94.here hx rfl (hb hby at_176) rfl (teq hf105).2 ?_
                show Steps p.tables e below (T94.setTop (mkF m 179 #[.val (.int p1), .val (.int p2), .val (.int p3), .val (.int p4), .val (.int p5), .val (.ref b1), .val (.int y1), .val (.int y3), .val (.int y5), .val (.int y5), .val (.ref b84), .val (.ref b88), .val (.int y10), .unset, .unset, .unset] [])) _
                refine XS.iload X94.here hx rfl (hb hby at_179) rfl ?_
                exact kt
              by_cases hf106 : (127 : Int32) < y5
              · obtain ⟨_, _, ⟨T107, L107, k107, n107⟩, -, X107, ⟨Lc107, hQ107, l107, y107, z107⟩, st107⟩ := Jvm.LawKit.callS X94 hx (y := (⟨"java/lang/Integer", "valueOf", "(I)Ljava/lang/Integer;"⟩ : MethodName)) hown94 (mvT hZ94 (wd49 hw)) (mvT hZ94 (wd50 hw)) (mvT hZ94 (wd51 hw)) (mvT hZ94 (wd52 hw)) (by decide) (backOf (W := 0) (rm6_0 l Z a0 hw [] y5 T94.heap n0 OL94 pr26 pr27 hf106) hZ94 (wd52 hw) (wd51 hw) (by decide) (by decide)) (g := (mkF m 181 #[.val (.int p1), .val (.int p2), .val (.int p3), .val (.int p4), .val (.int p5), .val (.ref b1), .val (.int y1), .val (.int y3), .val (.int y5), .val (.int y5), .val (.ref b84), .val (.ref b88), .val (.int y10), .unset, .unset, .unset] [(.int y5)])) rfl (by rw [hml]; rfl) (argsL := [(.int y5)]) (rest := []) (lenOf pd_6 rfl) rfl (by show 2 * 0 + _ ≤ _; exact Nat.le_of_eq rfl) (hb hby at_181) (fun _ _ => ⟨rfl, rfl, (by decide : 7 + 1 ≤ _), (by decide : 48 + 1 ≤ _)⟩)
                dsimp only [Pt.U, Pt.locs, Pt.cells, Pt.slots] at X107 l107 y107 z107 st107 hQ107
                subst l107 y107 z107
                obtain ⟨b107_0, rfl, Nq107, K107, u107_0, u107_1, u107_2⟩ := hQ107
                have KK107 : Keep h0 T107.heap [] := KK94.trans K107 all0
                have OL107 := OL94.keep K107 all0
                have g_b107_0 : n0 ≤ b107_0 := Nat.le_trans (Nat.le_trans (Nat.le_of_eq OL94.1.symm) OL94.2.1) u107_0
                have sz_b107_0 : h0.size ≤ b107_0 := Nat.le_trans KK94.1 u107_0
                have N107 := Fr.app N94 Nq107
                have fc109 := ((((A84.keep K87).ext E88).keep K94).keep K107)
                obtain ⟨cq108, kq108, q108a, q108b, q108c⟩ := isOf hZ94 rfl fc109
                obtain ⟨_, _, ⟨T108, L108, k108, n108⟩, -, X108, ⟨Lc108, hQ108, l108, y108, z108⟩, st108⟩ := X107.virtualBack hx (y := (⟨"com/example/larch/larch/model/Interval", "equals", "(Ljava/lang/Object;)Z"⟩ : MethodName)) (z := (⟨"com/example/larch/larch/model/Interval", "equals", "(Ljava/lang/Object;)Z"⟩ : MethodName)) hown94 (mvT hZ94 (wd42 hw)) (mvT hZ94 (wd43 hw)) (notFace_of_selects (args := #[]) (mvT hZ94 (wd45 hw))) (mvT hZ94 (wd45 hw)) (mvT hZ94 (wd44 hw)) (by decide) (backOf (W := 0) (rm5_3 l Z a0 hw [] b84 b107_0 T107.heap n0 OL107 u107_1) hZ94 (wd46 hw) (wd19 hw) (by decide) (by decide)) q108a q108c (g := (mkF m 203 #[.val (.int p1), .val (.int p2), .val (.int p3), .val (.int p4), .val (.int p5), .val (.ref b1), .val (.int y1), .val (.int y3), .val (.int y5), .val (.int y5), .val (.ref b84), .val (.ref b88), .val (.int y10), .val (.ref b107_0), .val (.int (0 : Int32)), .unset] [(.ref b107_0), (.ref b84)])) rfl (by rw [hml]; rfl) (Steps.refl _) (argsL := [(.ref b107_0)]) (rest := []) (lenOf pd_3 rfl) rfl (by show 2 * 0 + _ ≤ _; exact Nat.le_of_eq rfl) (hb hby at_203) (fun _ _ => ⟨rfl, rfl, (by decide : 8 + 0 ≤ _), (by decide : 49 + 0 ≤ _)⟩)
                dsimp only [Pt.U, Pt.locs, Pt.cells, Pt.slots] at X108 l108 y108 z108 st108 hQ108
                subst l108 y108 z108
                obtain ⟨rfl, Nq108, ec108⟩ := hQ108
                have N108 := Fr.app N107 Nq108
                obtain ⟨fs, hr, hrun, hended, hRW⟩ := X108.leaveW (s := s) hS94 (by rw [ec108]; exact (Nat.le_trans (Nat.le_refl _) K107.1)) (v := some (.int (1 : Int32))) (fun h => by rw [Bd.returns] at h; cases h)
                refine ⟨_, _, pre106 _ ?_, hrun, hended, _, _, rfl, ⟨rfl, N108⟩, hRW.1, hRW.2.1, hRW.2.2.1, hRW.2.2.2.mono (by decide) (by decide)⟩
                show Steps p.tables e below (T94.setTop (mkF m 181 #[.val (.int p1), .val (.int p2), .val (.int p3), .val (.int p4), .val (.int p5), .val (.ref b1), .val (.int y1), .val (.int y3), .val (.int y5), .val (.int y5), .val (.ref b84), .val (.ref b88), .val (.int y10), .unset, .unset, .unset] [(.int y5)])) _
                refine st107 _ ?_
                show Steps p.tables e below (T107.setTop (mkF m 184 #[.val (.int p1), .val (.int p2), .val (.int p3), .val (.int p4), .val (.int p5), .val (.ref b1), .val (.int y1), .val (.int y3), .val (.int y5), .val (.int y5), .val (.ref b84), .val (.ref b88), .val (.int y10), .unset, .unset, .unset] [(.ref b107_0)])) _
                refine XS.astore X107.here hx rfl (hb hby at_184) rfl rfl (l' := #[.val (.int p1), .val (.int p2), .val (.int p3), .val (.int p4), .val (.int p5), .val (.ref b1), .val (.int y1), .val (.int y3), .val (.int y5), .val (.int y5), .val (.ref b84), .val (.ref b88), .val (.int y10), .val (.ref b107_0), .unset, .unset]) rfl ?_
                refine XS.iconst X107.here hx rfl (hb hby at_186) ?_
                refine XS.istore X107.here hx rfl (hb hby at_187) rfl (l' := #[.val (.int p1), .val (.int p2), .val (.int p3), .val (.int p4), .val (.int p5), .val (.ref b1), .val (.int y1), .val (.int y3), .val (.int y5), .val (.int y5), .val (.ref b84), .val (.ref b88), .val (.int y10), .val (.ref b107_0), .val (.int (0 : Int32)), .unset]) rfl ?_
                refine XS.goto X107.here hx rfl (pc0 := 189) (pc' := 199) rfl (hb hby at_189) (by decide) (by decide) ?_
                show Steps p.tables e below (T107.setTop (mkF m 199 #[.val (.int p1), .val (.int p2), .val (.int p3), .val (.int p4), .val (.int p5), .val (.ref b1), .val (.int y1), .val (.int y3), .val (.int y5), .val (.int y5), .val (.ref b84), .val (.ref b88), .val (.int y10), .val (.ref b107_0), .val (.int (0 : Int32)), .unset] [])) _
                refine XS.aload X107.here hx rfl (hb hby at_199) rfl rfl ?_
                refine XS.aload X107.here hx rfl (hb hby at_201) rfl rfl ?_
                show Steps p.tables e below (T107.setTop (mkF m 203 #[.val (.int p1), .val (.int p2), .val (.int p3), .val (.int p4), .val (.int p5), .val (.ref b1), .val (.int y1), .val (.int y3), .val (.int y5), .val (.int y5), .val (.ref b84), .val (.ref b88), .val (.int y10), .val (.ref b107_0), .val (.int (0 : Int32)), .unset] [(.ref b107_0), (.ref b84)])) _
                refine st108.trans ?_
                show Steps p.tables e below (T108.setTop (mkF m 206 #[.val (.int p1), .val (.int p2), .val (.int p3), .val (.int p4), .val (.int p5), .val (.ref b1), .val (.int y1), .val (.int y3), .val (.int y5), .val (.int y5), .val (.ref b84), .val (.ref b88), .val (.int y10), .val (.ref b107_0), .val (.int (0 : Int32)), .unset] [(.int (0 : Int32))])) _
                refine XS.istore X108.here hx rfl (hb hby at_206) rfl (l' := #[.val (.int p1), .val (.int p2), .val (.int p3), .val (.int p4), .val (.int p5), .val (.ref b1), .val (.int y1), .val (.int y3), .val (.int y5), .val (.int y5), .val (.ref b84), .val (.ref b88), .val (.int y10), .val (.ref b107_0), .val (.int (0 : Int32)), .val (.int (0 : Int32))]) rfl ?_
                refine XS.iload X108.here hx rfl (hb hby at_208) rfl ?_
                refine XS.iload X108.here hx rfl (hb hby at_210) rfl ?_
                show Steps p.tables e below (T108.setTop (mkF m 212 #[.val (.int p1), .val (.int p2), .val (.int p3), .val (.int p4), .val (.int p5), .val (.ref b1), .val (.int y1), .val (.int y3), .val (.int y5), .val (.int y5), .val (.ref b84), .val (.ref b88), .val (.int y10), .val (.ref b107_0), .val (.int (0 : Int32)), .val (.int (0 : Int32))] [(.int (0 : Int32)), (.int (0 : Int32))])) _
                refine XS.icmpYes X108.here hx rfl (pc0 := 212) (pc' := 217) rfl (hb hby at_212) rfl (teq (rfl : (0 : Int32) = (0 : Int32))).1 (by decide) (by decide) ?_
                show Steps p.tables e below (T108.setTop (mkF m 217 #[.val (.int p1), .val (.int p2), .val (.int p3), .val (.int p4), .val (.int p5), .val (.ref b1), .val (.int y1), .val (.int y3), .val (.int y5), .val (.int y5), .val (.ref b84), .val (.ref b88), .val (.int y10), .val (.ref b107_0), .val (.int (0 : Int32)), .val (.int (0 : Int32))] [])) _
                refine XS.iload X108.here hx rfl (hb hby at_217) rfl ?_
                show Steps p.tables e below (T108.setTop (mkF m 219 #[.val (.int p1), .val (.int p2), .val (.int p3), .val (.int p4), .val (.int p5), .val (.ref b1), .val (.int y1), .val (.int y3), .val (.int y5), .val (.int y5), .val (.ref b84), .val (.ref b88), .val (.int y10), .val (.ref b107_0), .val (.int (0 : Int32)), .val (.int (0 : Int32))] [(.int y10)])) _
                refine XS.ifYes X108.here hx rfl (pc0 := 219) (pc' := 240) rfl (hb hby at_219) rfl ((if0 _ _).trans (feq hf95).2) (by decide) (by decide) ?_
                show Steps p.tables e below (T108.setTop (mkF m 240 #[.val (.int p1), .val (.int p2), .val (.int p3), .val (.int p4), .val (.int p5), .val (.ref b1), .val (.int y1), .val (.int y3), .val (.int y5), .val (.int y5), .val (.ref b84), .val (.ref b88), .val (.int y10), .val (.ref b107_0), .val (.int (0 : Int32)), .val (.int (0 : Int32))] [])) _
                refine XS.iconst X108.here hx rfl (hb hby at_240) ?_
                show Steps p.tables e below (T108.setTop (mkF m 241 #[.val (.int p1), .val (.int p2), .val (.int p3), .val (.int p4), .val (.int p5), .val (.ref b1), .val (.int y1), .val (.int y3), .val (.int y5), .val (.int y5), .val (.ref b84), .val (.ref b88), .val (.int y10), .val (.ref b107_0), .val (.int (0 : Int32)), .val (.int (0 : Int32))] [(.int (1 : Int32))])) _
                exact retN X108 hx (t := .boolean) Bd.returns (by simp) (hb hby at_241) hr
              · obtain ⟨cx110, bx110⟩ := id pr28
                obtain ⟨wc1, at110, Ea110, Fa110⟩ := own_box bx110 (j := (y5 + (128 : Int32))) (own_inbox pr26 hf106).1 (own_inbox pr26 hf106).2
                simp only [own_addsub] at Fa110
                obtain ⟨_, _, ⟨T111, L111, k111, n111⟩, -, X111, ⟨Lc111, hQ111, l111, y111, z111⟩, st111⟩ := Jvm.LawKit.callS X94 hx (y := (⟨"java/lang/Integer", "valueOf", "(I)Ljava/lang/Integer;"⟩ : MethodName)) hown94 (mvT hZ94 (wd49 hw)) (mvT hZ94 (wd50 hw)) (mvT hZ94 (wd51 hw)) (mvT hZ94 (wd52 hw)) (by decide) (backOf (W := 0) (rm6_1 l Z a0 hw [] y5 w_cache wc1 T94.heap n0 OL94 pr26 pr27 hf106 pr29 at110) hZ94 (wd52 hw) (wd51 hw) (by decide) (by decide)) (g := (mkF m 181 #[.val (.int p1), .val (.int p2), .val (.int p3), .val (.int p4), .val (.int p5), .val (.ref b1), .val (.int y1), .val (.int y3), .val (.int y5), .val (.int y5), .val (.ref b84), .val (.ref b88), .val (.int y10), .unset, .unset, .unset] [(.int y5)])) rfl (by rw [hml]; rfl) (argsL := [(.int y5)]) (rest := []) (lenOf pd_6 rfl) rfl (by show 2 * 0 + _ ≤ _; exact Nat.le_of_eq rfl) (hb hby at_181) (fun _ _ => ⟨rfl, rfl, (by decide : 7 + 0 ≤ _), (by decide : 48 + 0 ≤ _)⟩)
                dsimp only [Pt.U, Pt.locs, Pt.cells, Pt.slots] at X111 l111 y111 z111 st111 hQ111
                subst l111 y111 z111
                obtain ⟨rfl, Nq111, ec111⟩ := hQ111
                have N111 := Fr.app N94 Nq111
                have fc113 := (((A84.keep K87).ext E88).keep K94)
                obtain ⟨cq112, kq112, q112a, q112b, q112c⟩ := isOf hZ94 ec111 fc113
                obtain ⟨_, _, ⟨T112, L112, k112, n112⟩, -, X112, ⟨Lc112, hQ112, l112, y112, z112⟩, st112⟩ := X111.virtualBack hx (y := (⟨"com/example/larch/larch/model/Interval", "equals", "(Ljava/lang/Object;)Z"⟩ : MethodName)) (z := (⟨"com/example/larch/larch/model/Interval", "equals", "(Ljava/lang/Object;)Z"⟩ : MethodName)) hown94 (mvT hZ94 (wd42 hw)) (mvT hZ94 (wd43 hw)) (notFace_of_selects (args := #[]) (mvT hZ94 (wd45 hw))) (mvT hZ94 (wd45 hw)) (mvT hZ94 (wd44 hw)) (by decide) (backOf (W := 0) (rm5_4 l Z a0 hw [] b84 wc1 T94.heap n0 OL94 Ea110) hZ94 (wd46 hw) (wd19 hw) (by decide) (by decide)) q112a q112c (g := (mkF m 203 #[.val (.int p1), .val (.int p2), .val (.int p3), .val (.int p4), .val (.int p5), .val (.ref b1), .val (.int y1), .val (.int y3), .val (.int y5), .val (.int y5), .val (.ref b84), .val (.ref b88), .val (.int y10), .val (.ref wc1), .val (.int (0 : Int32)), .unset] [(.ref wc1), (.ref b84)])) rfl (by rw [hml]; rfl) (Steps.refl _) (argsL := [(.ref wc1)]) (rest := []) (lenOf pd_3 rfl) rfl (by show 2 * 0 + _ ≤ _; exact Nat.le_of_eq rfl) (hb hby at_203) (fun _ _ => ⟨rfl, ec111, (by decide : 7 + 0 ≤ _), (by decide : 48 + 0 ≤ _)⟩)
                dsimp only [Pt.U, Pt.locs, Pt.cells, Pt.slots] at X112 l112 y112 z112 st112 hQ112
                subst l112 y112 z112
                obtain ⟨rfl, Nq112, ec112⟩ := hQ112
                have N112 := Fr.app N111 Nq112
                obtain ⟨fs, hr, hrun, hended, hRW⟩ := X112.leaveW (s := s) hS94 (by rw [ec112]; exact (Nat.le_refl _)) (v := some (.int (1 : Int32))) (fun h => by rw [Bd.returns] at h; cases h)
                refine ⟨_, _, pre106 _ ?_, hrun, hended, _, _, rfl, ⟨rfl, N112⟩, hRW.1, hRW.2.1, hRW.2.2.1, hRW.2.2.2.mono (by decide) (by decide)⟩
                show Steps p.tables e below (T94.setTop (mkF m 181 #[.val (.int p1), .val (.int p2), .val (.int p3), .val (.int p4), .val (.int p5), .val (.ref b1), .val (.int y1), .val (.int y3), .val (.int y5), .val (.int y5), .val (.ref b84), .val (.ref b88), .val (.int y10), .unset, .unset, .unset] [(.int y5)])) _
                refine st111 _ ?_
                show Steps p.tables e below (T111.setTop (mkF m 184 #[.val (.int p1), .val (.int p2), .val (.int p3), .val (.int p4), .val (.int p5), .val (.ref b1), .val (.int y1), .val (.int y3), .val (.int y5), .val (.int y5), .val (.ref b84), .val (.ref b88), .val (.int y10), .unset, .unset, .unset] [(.ref wc1)])) _
                refine XS.astore X111.here hx rfl (hb hby at_184) rfl rfl (l' := #[.val (.int p1), .val (.int p2), .val (.int p3), .val (.int p4), .val (.int p5), .val (.ref b1), .val (.int y1), .val (.int y3), .val (.int y5), .val (.int y5), .val (.ref b84), .val (.ref b88), .val (.int y10), .val (.ref wc1), .unset, .unset]) rfl ?_
                refine XS.iconst X111.here hx rfl (hb hby at_186) ?_
                refine XS.istore X111.here hx rfl (hb hby at_187) rfl (l' := #[.val (.int p1), .val (.int p2), .val (.int p3), .val (.int p4), .val (.int p5), .val (.ref b1), .val (.int y1), .val (.int y3), .val (.int y5), .val (.int y5), .val (.ref b84), .val (.ref b88), .val (.int y10), .val (.ref wc1), .val (.int (0 : Int32)), .unset]) rfl ?_
                refine XS.goto X111.here hx rfl (pc0 := 189) (pc' := 199) rfl (hb hby at_189) (by decide) (by decide) ?_
                show Steps p.tables e below (T111.setTop (mkF m 199 #[.val (.int p1), .val (.int p2), .val (.int p3), .val (.int p4), .val (.int p5), .val (.ref b1), .val (.int y1), .val (.int y3), .val (.int y5), .val (.int y5), .val (.ref b84), .val (.ref b88), .val (.int y10), .val (.ref wc1), .val (.int (0 : Int32)), .unset] [])) _
                refine XS.aload X111.here hx rfl (hb hby at_199) rfl rfl ?_
                refine XS.aload X111.here hx rfl (hb hby at_201) rfl rfl ?_
                show Steps p.tables e below (T111.setTop (mkF m 203 #[.val (.int p1), .val (.int p2), .val (.int p3), .val (.int p4), .val (.int p5), .val (.ref b1), .val (.int y1), .val (.int y3), .val (.int y5), .val (.int y5), .val (.ref b84), .val (.ref b88), .val (.int y10), .val (.ref wc1), .val (.int (0 : Int32)), .unset] [(.ref wc1), (.ref b84)])) _
                refine st112.trans ?_
                show Steps p.tables e below (T112.setTop (mkF m 206 #[.val (.int p1), .val (.int p2), .val (.int p3), .val (.int p4), .val (.int p5), .val (.ref b1), .val (.int y1), .val (.int y3), .val (.int y5), .val (.int y5), .val (.ref b84), .val (.ref b88), .val (.int y10), .val (.ref wc1), .val (.int (0 : Int32)), .unset] [(.int (0 : Int32))])) _
                refine XS.istore X112.here hx rfl (hb hby at_206) rfl (l' := #[.val (.int p1), .val (.int p2), .val (.int p3), .val (.int p4), .val (.int p5), .val (.ref b1), .val (.int y1), .val (.int y3), .val (.int y5), .val (.int y5), .val (.ref b84), .val (.ref b88), .val (.int y10), .val (.ref wc1), .val (.int (0 : Int32)), .val (.int (0 : Int32))]) rfl ?_
                refine XS.iload X112.here hx rfl (hb hby at_208) rfl ?_
                refine XS.iload X112.here hx rfl (hb hby at_210) rfl ?_
                show Steps p.tables e below (T112.setTop (mkF m 212 #[.val (.int p1), .val (.int p2), .val (.int p3), .val (.int p4), .val (.int p5), .val (.ref b1), .val (.int y1), .val (.int y3), .val (.int y5), .val (.int y5), .val (.ref b84), .val (.ref b88), .val (.int y10), .val (.ref wc1), .val (.int (0 : Int32)), .val (.int (0 : Int32))] [(.int (0 : Int32)), (.int (0 : Int32))])) _
                refine XS.icmpYes X112.here hx rfl (pc0 := 212) (pc' := 217) rfl (hb hby at_212) rfl (teq (rfl : (0 : Int32) = (0 : Int32))).1 (by decide) (by decide) ?_
                show Steps p.tables e below (T112.setTop (mkF m 217 #[.val (.int p1), .val (.int p2), .val (.int p3), .val (.int p4), .val (.int p5), .val (.ref b1), .val (.int y1), .val (.int y3), .val (.int y5), .val (.int y5), .val (.ref b84), .val (.ref b88), .val (.int y10), .val (.ref wc1), .val (.int (0 : Int32)), .val (.int (0 : Int32))] [])) _
                refine XS.iload X112.here hx rfl (hb hby at_217) rfl ?_
                show Steps p.tables e below (T112.setTop (mkF m 219 #[.val (.int p1), .val (.int p2), .val (.int p3), .val (.int p4), .val (.int p5), .val (.ref b1), .val (.int y1), .val (.int y3), .val (.int y5), .val (.int y5), .val (.ref b84), .val (.ref b88), .val (.int y10), .val (.ref wc1), .val (.int (0 : Int32)), .val (.int (0 : Int32))] [(.int y10)])) _
                refine XS.ifYes X112.here hx rfl (pc0 := 219) (pc' := 240) rfl (hb hby at_219) rfl ((if0 _ _).trans (feq hf95).2) (by decide) (by decide) ?_
                show Steps p.tables e below (T112.setTop (mkF m 240 #[.val (.int p1), .val (.int p2), .val (.int p3), .val (.int p4), .val (.int p5), .val (.ref b1), .val (.int y1), .val (.int y3), .val (.int y5), .val (.int y5), .val (.ref b84), .val (.ref b88), .val (.int y10), .val (.ref wc1), .val (.int (0 : Int32)), .val (.int (0 : Int32))] [])) _
                refine XS.iconst X112.here hx rfl (hb hby at_240) ?_
                show Steps p.tables e below (T112.setTop (mkF m 241 #[.val (.int p1), .val (.int p2), .val (.int p3), .val (.int p4), .val (.int p5), .val (.ref b1), .val (.int y1), .val (.int y3), .val (.int y5), .val (.int y5), .val (.ref b84), .val (.ref b88), .val (.int y10), .val (.ref wc1), .val (.int (0 : Int32)), .val (.int (0 : Int32))] [(.int (1 : Int32))])) _
                exact retN X112 hx (t := .boolean) Bd.returns (by simp) (hb hby at_241) hr
            · have fc115 := (((A84.keep K87).ext E88).keep K94)
              have fc116 := ((u87_0.ext E88).keep K94 (ninS (Nat.ne_of_lt (Nat.lt_of_lt_of_le u87_1.lt (Nat.le_of_eq g88.symm))) nin0))
              have fc117 := ((u87_1.ext E88).keep K94 (ninS (Nat.ne_of_lt (Nat.lt_of_lt_of_le u87_1.lt (Nat.le_of_eq g88.symm))) nin0))
              obtain ⟨cq114, kq114, q114a, q114b, q114c⟩ := isOf hZ94 rfl fc115
              obtain ⟨_, _, ⟨T114, L114, k114, n114⟩, -, X114, ⟨Lc114, hQ114, l114, y114, z114⟩, st114⟩ := X94.virtualBack hx (y := (⟨"com/example/larch/larch/model/Interval", "equals", "(Ljava/lang/Object;)Z"⟩ : MethodName)) (z := (⟨"com/example/larch/larch/model/Interval", "equals", "(Ljava/lang/Object;)Z"⟩ : MethodName)) hown94 (mvT hZ94 (wd42 hw)) (mvT hZ94 (wd43 hw)) (notFace_of_selects (args := #[]) (mvT hZ94 (wd45 hw))) (mvT hZ94 (wd45 hw)) (mvT hZ94 (wd44 hw)) (by decide) (backOf (W := 0) (rm5_5 l Z a0 hw [] b84 v1 y5 T94.heap n0 OL94 fc115 fc116 fc117) hZ94 (wd46 hw) (wd19 hw) (by decide) (by decide)) q114a q114c (g := (mkF m 203 #[.val (.int p1), .val (.int p2), .val (.int p3), .val (.int p4), .val (.int p5), .val (.ref b1), .val (.int y1), .val (.int y3), .val (.int y5), .val (.int y5), .val (.ref b84), .val (.ref b88), .val (.int y10), .val (.ref b84), .val (.int (1 : Int32)), .unset] [(.ref b84), (.ref b84)])) rfl (by rw [hml]; rfl) (Steps.refl _) (argsL := [(.ref b84)]) (rest := []) (lenOf pd_3 rfl) rfl (by show 2 * 0 + _ ≤ _; exact Nat.le_of_eq rfl) (hb hby at_203) (fun _ _ => ⟨rfl, rfl, (by decide : 7 + 0 ≤ _), (by decide : 48 + 0 ≤ _)⟩)
              dsimp only [Pt.U, Pt.locs, Pt.cells, Pt.slots] at X114 l114 y114 z114 st114 hQ114
              subst l114 y114 z114
              obtain ⟨rfl, Nq114, ec114⟩ := hQ114
              have N114 := Fr.app N94 Nq114
              obtain ⟨fs, hr, hrun, hended, hRW⟩ := X114.leaveW (s := s) hS94 (by rw [ec114]; exact (Nat.le_refl _)) (v := some (.int (1 : Int32))) (fun h => by rw [Bd.returns] at h; cases h)
              refine ⟨_, _, pre105 _ ?_, hrun, hended, _, _, rfl, ⟨rfl, N114⟩, hRW.1, hRW.2.1, hRW.2.2.1, hRW.2.2.2.mono (by decide) (by decide)⟩
              show Steps p.tables e below (T94.setTop (mkF m 176 #[.val (.int p1), .val (.int p2), .val (.int p3), .val (.int p4), .val (.int p5), .val (.ref b1), .val (.int y1), .val (.int y3), .val (.int y5), .val (.int y5), .val (.ref b84), .val (.ref b88), .val (.int y10), .unset, .unset, .unset] [(.int (2 : Int32)), (.int y10)])) _
              refine XS.icmpYes X94.here hx rfl (pc0 := 176) (pc' := 192) rfl (hb hby at_176) rfl (feq hf105).2 (by decide) (by decide) ?_
              show Steps p.tables e below (T94.setTop (mkF m 192 #[.val (.int p1), .val (.int p2), .val (.int p3), .val (.int p4), .val (.int p5), .val (.ref b1), .val (.int y1), .val (.int y3), .val (.int y5), .val (.int y5), .val (.ref b84), .val (.ref b88), .val (.int y10), .unset, .unset, .unset] [])) _
              refine XS.aload X94.here hx rfl (hb hby at_192) rfl rfl ?_
              refine XS.astore X94.here hx rfl (hb hby at_194) rfl rfl (l' := #[.val (.int p1), .val (.int p2), .val (.int p3), .val (.int p4), .val (.int p5), .val (.ref b1), .val (.int y1), .val (.int y3), .val (.int y5), .val (.int y5), .val (.ref b84), .val (.ref b88), .val (.int y10), .val (.ref b84), .unset, .unset]) rfl ?_
              refine XS.iconst X94.here hx rfl (hb hby at_196) ?_
              refine XS.istore X94.here hx rfl (hb hby at_197) rfl (l' := #[.val (.int p1), .val (.int p2), .val (.int p3), .val (.int p4), .val (.int p5), .val (.ref b1), .val (.int y1), .val (.int y3), .val (.int y5), .val (.int y5), .val (.ref b84), .val (.ref b88), .val (.int y10), .val (.ref b84), .val (.int (1 : Int32)), .unset]) rfl ?_
              show Steps p.tables e below (T94.setTop (mkF m 199 #[.val (.int p1), .val (.int p2), .val (.int p3), .val (.int p4), .val (.int p5), .val (.ref b1), .val (.int y1), .val (.int y3), .val (.int y5), .val (.int y5), .val (.ref b84), .val (.ref b88), .val (.int y10), .val (.ref b84), .val (.int (1 : Int32)), .unset] [])) _
              refine XS.aload X94.here hx rfl (hb hby at_199) rfl rfl ?_
              refine XS.aload X94.here hx rfl (hb hby at_201) rfl rfl ?_
              show Steps p.tables e below (T94.setTop (mkF m 203 #[.val (.int p1), .val (.int p2), .val (.int p3), .val (.int p4), .val (.int p5), .val (.ref b1), .val (.int y1), .val (.int y3), .val (.int y5), .val (.int y5), .val (.ref b84), .val (.ref b88), .val (.int y10), .val (.ref b84), .val (.int (1 : Int32)), .unset] [(.ref b84), (.ref b84)])) _
              refine st114.trans ?_
              show Steps p.tables e below (T114.setTop (mkF m 206 #[.val (.int p1), .val (.int p2), .val (.int p3), .val (.int p4), .val (.int p5), .val (.ref b1), .val (.int y1), .val (.int y3), .val (.int y5), .val (.int y5), .val (.ref b84), .val (.ref b88), .val (.int y10), .val (.ref b84), .val (.int (1 : Int32)), .unset] [(.int (1 : Int32))])) _
              refine XS.istore X114.here hx rfl (hb hby at_206) rfl (l' := #[.val (.int p1), .val (.int p2), .val (.int p3), .val (.int p4), .val (.int p5), .val (.ref b1), .val (.int y1), .val (.int y3), .val (.int y5), .val (.int y5), .val (.ref b84), .val (.ref b88), .val (.int y10), .val (.ref b84), .val (.int (1 : Int32)), .val (.int (1 : Int32))]) rfl ?_
              refine XS.iload X114.here hx rfl (hb hby at_208) rfl ?_
              refine XS.iload X114.here hx rfl (hb hby at_210) rfl ?_
              show Steps p.tables e below (T114.setTop (mkF m 212 #[.val (.int p1), .val (.int p2), .val (.int p3), .val (.int p4), .val (.int p5), .val (.ref b1), .val (.int y1), .val (.int y3), .val (.int y5), .val (.int y5), .val (.ref b84), .val (.ref b88), .val (.int y10), .val (.ref b84), .val (.int (1 : Int32)), .val (.int (1 : Int32))] [(.int (1 : Int32)), (.int (1 : Int32))])) _
              refine XS.icmpYes X114.here hx rfl (pc0 := 212) (pc' := 217) rfl (hb hby at_212) rfl (teq (rfl : (1 : Int32) = (1 : Int32))).1 (by decide) (by decide) ?_
              show Steps p.tables e below (T114.setTop (mkF m 217 #[.val (.int p1), .val (.int p2), .val (.int p3), .val (.int p4), .val (.int p5), .val (.ref b1), .val (.int y1), .val (.int y3), .val (.int y5), .val (.int y5), .val (.ref b84), .val (.ref b88), .val (.int y10), .val (.ref b84), .val (.int (1 : Int32)), .val (.int (1 : Int32))] [])) _
              refine XS.iload X114.here hx rfl (hb hby at_217) rfl ?_
              show Steps p.tables e below (T114.setTop (mkF m 219 #[.val (.int p1), .val (.int p2), .val (.int p3), .val (.int p4), .val (.int p5), .val (.ref b1), .val (.int y1), .val (.int y3), .val (.int y5), .val (.int y5), .val (.ref b84), .val (.ref b88), .val (.int y10), .val (.ref b84), .val (.int (1 : Int32)), .val (.int (1 : Int32))] [(.int y10)])) _
              refine XS.ifYes X114.here hx rfl (pc0 := 219) (pc' := 240) rfl (hb hby at_219) rfl ((if0 _ _).trans (feq hf95).2) (by decide) (by decide) ?_
              show Steps p.tables e below (T114.setTop (mkF m 240 #[.val (.int p1), .val (.int p2), .val (.int p3), .val (.int p4), .val (.int p5), .val (.ref b1), .val (.int y1), .val (.int y3), .val (.int y5), .val (.int y5), .val (.ref b84), .val (.ref b88), .val (.int y10), .val (.ref b84), .val (.int (1 : Int32)), .val (.int (1 : Int32))] [])) _
              refine XS.iconst X114.here hx rfl (hb hby at_240) ?_
              show Steps p.tables e below (T114.setTop (mkF m 241 #[.val (.int p1), .val (.int p2), .val (.int p3), .val (.int p4), .val (.int p5), .val (.ref b1), .val (.int y1), .val (.int y3), .val (.int y5), .val (.int y5), .val (.ref b84), .val (.ref b88), .val (.int y10), .val (.ref b84), .val (.int (1 : Int32)), .val (.int (1 : Int32))] [(.int (1 : Int32))])) _
              exact retN X114 hx (t := .boolean) Bd.returns (by simp) (hb hby at_241) hr
      · have fc118 := ((fc85.keep K87 (ninS (Nat.ne_of_lt (Nat.lt_of_lt_of_le V13.lt (Nat.le_of_eq g84.symm))) nin0)).ext E88)
        obtain ⟨cl119, Ar119, -, S119, -, Hs119, -⟩ := id fc118
        have hin119 : ¬ (y3 < 0 ∨ cl119.slots.size ≤ (y3).toNatClampNeg) := inb_of S119 ⟨pr21, pr22⟩
        have hat119 : cl119.slots[(y3).toNatClampNeg]? = some (.ref v2) := Hs119.at hin119 pr30
        obtain ⟨_, _, ⟨T120, L120, k120, n120⟩, -, Xa120, hSi120, hgr120, ⟨Lc120, hQ120, l120, y120, z120⟩, st120⟩ := X88.specialBackS hx (y := (⟨"com/example/larch/larch/model/Interval", "<init>", "(Lcom/example/larch/larch/model/IntervalUnit;I)V"⟩ : MethodName)) rfl hown87 (mvT hZ87 (wd20 hw)) (mvT hZ87 (wd21 hw)) (mvT hZ87 (wd22 hw)) (by decide) (backOfS (W := 1) (rm2_0 l Z a0 hw [] b88 v2 y5 h88 n0 OL88 pr20 A88 F_unit_b88 g_b88 F_length_b88) hZ87 (wd22 hw) (wd19 hw) (by decide) (by decide)) (g := (mkF m 112 #[.val (.int p1), .val (.int p2), .val (.int p3), .val (.int p4), .val (.int p5), .val (.ref b1), .val (.int y1), .val (.int y3), .val (.int y5), .val (.int y5), .val (.ref b84), .unset, .unset, .unset, .unset, .unset] [(.int y5), (.ref v2), (.ref b88), (.ref b88)])) rfl (by rw [hml]; rfl) (Steps.refl _) (a := b88) (argsL := [(.ref v2), (.int y5)]) (rest := [(.ref b88)]) (lenOf pd_2 rfl) rfl (by show 2 * 0 + _ ≤ _; exact Nat.le_of_eq rfl) (hb hby at_112) (fun _ _ => ⟨rfl, e88, (by decide : 5 + 2 ≤ _), (by decide : 28 + 20 ≤ _)⟩)
        dsimp only [Pt.U, Pt.locs, Pt.cells, Pt.slots] at Xa120 l120 y120 z120 st120 hQ120 hSi120 hgr120
        subst l120 y120 z120
        obtain ⟨X120, hS120, hZ120, hown120⟩ := rebS (s := s) (vm0 := T87.vm) hS87 (n1 := T88.heap.size) (by rw [e88]; exact (Nat.le_trans (Nat.le_refl _) E88.1)) Xa120 hSi120 hgr120 hZ87 hown87
        obtain ⟨rfl, Nq120, K120, u120_0, u120_1⟩ := hQ120
        have KK120 : Keep h0 T120.heap [] := KK88.trans K120 (allS (Or.inr sz_b88) all0)
        have OL120 := OL88.keep K120 (allS g_b88 all0)
        have N120 := Fr.app N87 Nq120
        have pre121 : ∀ t, Steps p.tables e below (T120.setTop (mkF m 127 #[.val (.int p1), .val (.int p2), .val (.int p3), .val (.int p4), .val (.int p5), .val (.ref b1), .val (.int y1), .val (.int y3), .val (.int y5), .val (.int y5), .val (.ref b84), .val (.ref b88), .val (.int y10), .unset, .unset, .unset] [(.int y10)])) t → Steps p.tables e below (s₁.setTop (entryFrame m #[(.int p1), (.int p2), (.int p3), (.int p4), (.int p5)] maxLocals)) t := by
          intro t kt
          refine pre91 _ ?_
          show Steps p.tables e below (T88.setTop (mkF m 109 #[.val (.int p1), .val (.int p2), .val (.int p3), .val (.int p4), .val (.int p5), .val (.ref b1), .val (.int y1), .val (.int y3), .val (.int y5), .val (.int y5), .val (.ref b84), .unset, .unset, .unset, .unset, .unset] [(.int y3), (.ref b1), (.ref b88), (.ref b88)])) _
          refine X88.aaload hx (j := y3) (v := (.ref v2)) (by rw [e88]; exact Ar119.1) (State.isArrayOf_alike hZ87.alike Ar119.2.1) rfl Ar119.2.2 hin119 hat119 (g := (mkF m 109 #[.val (.int p1), .val (.int p2), .val (.int p3), .val (.int p4), .val (.int p5), .val (.ref b1), .val (.int y1), .val (.int y3), .val (.int y5), .val (.int y5), .val (.ref b84), .unset, .unset, .unset, .unset, .unset] [(.int y3), (.ref b1), (.ref b88), (.ref b88)])) rfl rfl (hb hby at_109) _ ?_
          show Steps p.tables e below (T88.setTop (mkF m 110 #[.val (.int p1), .val (.int p2), .val (.int p3), .val (.int p4), .val (.int p5), .val (.ref b1), .val (.int y1), .val (.int y3), .val (.int y5), .val (.int y5), .val (.ref b84), .unset, .unset, .unset, .unset, .unset] [(.ref v2), (.ref b88), (.ref b88)])) _
          refine XS.iload X88.here hx rfl (hb hby at_110) rfl ?_
          show Steps p.tables e below (T88.setTop (mkF m 112 #[.val (.int p1), .val (.int p2), .val (.int p3), .val (.int p4), .val (.int p5), .val (.ref b1), .val (.int y1), .val (.int y3), .val (.int y5), .val (.int y5), .val (.ref b84), .unset, .unset, .unset, .unset, .unset] [(.int y5), (.ref v2), (.ref b88), (.ref b88)])) _
          refine st120.trans ?_
          show Steps p.tables e below (T120.setTop (mkF m 115 #[.val (.int p1), .val (.int p2), .val (.int p3), .val (.int p4), .val (.int p5), .val (.ref b1), .val (.int y1), .val (.int y3), .val (.int y5), .val (.int y5), .val (.ref b84), .unset, .unset, .unset, .unset, .unset] [(.ref b88)])) _
          refine XS.astore X120.here hx rfl (hb hby at_115) rfl rfl (l' := #[.val (.int p1), .val (.int p2), .val (.int p3), .val (.int p4), .val (.int p5), .val (.ref b1), .val (.int y1), .val (.int y3), .val (.int y5), .val (.int y5), .val (.ref b84), .val (.ref b88), .unset, .unset, .unset, .unset]) rfl ?_
          refine XS.iload X120.here hx rfl (hb hby at_117) rfl ?_
          refine XS.iconst X120.here hx rfl (hb hby at_119) ?_
          show Steps p.tables e below (T120.setTop (mkF m 120 #[.val (.int p1), .val (.int p2), .val (.int p3), .val (.int p4), .val (.int p5), .val (.ref b1), .val (.int y1), .val (.int y3), .val (.int y5), .val (.int y5), .val (.ref b84), .val (.ref b88), .unset, .unset, .unset, .unset] [(.int (1 : Int32)), (.int p5)])) _
          refine XS.iushr X120.here hx rfl (hb hby at_120) rfl ?_
          show Steps p.tables e below (T120.setTop (mkF m 121 #[.val (.int p1), .val (.int p2), .val (.int p3), .val (.int p4), .val (.int p5), .val (.ref b1), .val (.int y1), .val (.int y3), .val (.int y5), .val (.int y5), .val (.ref b84), .val (.ref b88), .unset, .unset, .unset, .unset] [(.int ((p5.toUInt32 >>> ((1 : Int32) &&& 31).toUInt32).toInt32))])) _
          rw [pr24]
          show Steps p.tables e below (T120.setTop (mkF m 121 #[.val (.int p1), .val (.int p2), .val (.int p3), .val (.int p4), .val (.int p5), .val (.ref b1), .val (.int y1), .val (.int y3), .val (.int y5), .val (.int y5), .val (.ref b84), .val (.ref b88), .unset, .unset, .unset, .unset] [(.int y9)])) _
          refine XS.iconst X120.here hx rfl (hb hby at_121) ?_
          show Steps p.tables e below (T120.setTop (mkF m 122 #[.val (.int p1), .val (.int p2), .val (.int p3), .val (.int p4), .val (.int p5), .val (.ref b1), .val (.int y1), .val (.int y3), .val (.int y5), .val (.int y5), .val (.ref b84), .val (.ref b88), .unset, .unset, .unset, .unset] [(.int (3 : Int32)), (.int y9)])) _
          refine XS.iand X120.here hx rfl (hb hby at_122) rfl ?_
          show Steps p.tables e below (T120.setTop (mkF m 123 #[.val (.int p1), .val (.int p2), .val (.int p3), .val (.int p4), .val (.int p5), .val (.ref b1), .val (.int y1), .val (.int y3), .val (.int y5), .val (.int y5), .val (.ref b84), .val (.ref b88), .unset, .unset, .unset, .unset] [(.int (y9 &&& (3 : Int32)))])) _
          rw [pr25]
          show Steps p.tables e below (T120.setTop (mkF m 123 #[.val (.int p1), .val (.int p2), .val (.int p3), .val (.int p4), .val (.int p5), .val (.ref b1), .val (.int y1), .val (.int y3), .val (.int y5), .val (.int y5), .val (.ref b84), .val (.ref b88), .unset, .unset, .unset, .unset] [(.int y10)])) _
          refine XS.istore X120.here hx rfl (hb hby at_123) rfl (l' := #[.val (.int p1), .val (.int p2), .val (.int p3), .val (.int p4), .val (.int p5), .val (.ref b1), .val (.int y1), .val (.int y3), .val (.int y5), .val (.int y5), .val (.ref b84), .val (.ref b88), .val (.int y10), .unset, .unset, .unset]) rfl ?_
          refine XS.iload X120.here hx rfl (hb hby at_125) rfl ?_
          exact kt
        by_cases hf121 : y10 = (0 : Int32)
        · have fc123 := (A88.keep K120)
          have fc124 := ((u87_0.ext E88).keep K120 (ninS (Nat.ne_of_lt (Nat.lt_of_lt_of_le u87_1.lt (Nat.le_of_eq g88.symm))) nin0))
          have fc125 := (((A84.keep K87).ext E88).keep K120)
          obtain ⟨cq122, kq122, q122a, q122b, q122c⟩ := isOf hZ120 rfl fc125
          obtain ⟨_, _, ⟨T122, L122, k122, n122⟩, -, X122, ⟨Lc122, hQ122, l122, y122, z122⟩, st122⟩ := X120.virtualBack hx (y := (⟨"com/example/larch/larch/model/Interval", "equals", "(Ljava/lang/Object;)Z"⟩ : MethodName)) (z := (⟨"com/example/larch/larch/model/Interval", "equals", "(Ljava/lang/Object;)Z"⟩ : MethodName)) hown120 (mvT hZ120 (wd42 hw)) (mvT hZ120 (wd43 hw)) (notFace_of_selects (args := #[]) (mvT hZ120 (wd45 hw))) (mvT hZ120 (wd45 hw)) (mvT hZ120 (wd44 hw)) (by decide) (backOf (W := 0) (rm5_6 l Z a0 hw [] b84 b88 v1 v2 T120.heap n0 OL120 fc123 fc124 u120_0 (Fld.ne pr31 pr32 (fun q => hf91 (Value.int.inj q)))) hZ120 (wd46 hw) (wd19 hw) (by decide) (by decide)) q122a q122c (g := (mkF m 203 #[.val (.int p1), .val (.int p2), .val (.int p3), .val (.int p4), .val (.int p5), .val (.ref b1), .val (.int y1), .val (.int y3), .val (.int y5), .val (.int y5), .val (.ref b84), .val (.ref b88), .val (.int y10), .val (.ref b88), .val (.int (0 : Int32)), .unset] [(.ref b88), (.ref b84)])) rfl (by rw [hml]; rfl) (Steps.refl _) (argsL := [(.ref b88)]) (rest := []) (lenOf pd_3 rfl) rfl (by show 2 * 0 + _ ≤ _; exact Nat.le_of_eq rfl) (hb hby at_203) (fun _ _ => ⟨rfl, rfl, (by decide : 7 + 0 ≤ _), (by decide : 48 + 0 ≤ _)⟩)
          dsimp only [Pt.U, Pt.locs, Pt.cells, Pt.slots] at X122 l122 y122 z122 st122 hQ122
          subst l122 y122 z122
          obtain ⟨rfl, Nq122, ec122⟩ := hQ122
          have N122 := Fr.app N120 Nq122
          obtain ⟨cq126, kq126, q126a, q126b, q126c⟩ := isOf hZ120 ec122 fc123
          obtain ⟨_, _, ⟨T126, L126, k126, n126⟩, -, X126, ⟨Lc126, hQ126, l126, y126, z126⟩, st126⟩ := X122.virtualBack hx (y := (⟨"com/example/larch/larch/model/Interval", "equals", "(Ljava/lang/Object;)Z"⟩ : MethodName)) (z := (⟨"com/example/larch/larch/model/Interval", "equals", "(Ljava/lang/Object;)Z"⟩ : MethodName)) hown120 (mvT hZ120 (wd42 hw)) (mvT hZ120 (wd43 hw)) (notFace_of_selects (args := #[]) (mvT hZ120 (wd45 hw))) (mvT hZ120 (wd45 hw)) (mvT hZ120 (wd44 hw)) (by decide) (backOf (W := 0) (rm5_6 l Z a0 hw [] b88 b84 v2 v1 T120.heap n0 OL120 fc125 u120_0 fc124 (Ne.symm (Fld.ne pr31 pr32 (fun q => hf91 (Value.int.inj q))))) hZ120 (wd46 hw) (wd19 hw) (by decide) (by decide)) q126a q126c (g := (mkF m 226 #[.val (.int p1), .val (.int p2), .val (.int p3), .val (.int p4), .val (.int p5), .val (.ref b1), .val (.int y1), .val (.int y3), .val (.int y5), .val (.int y5), .val (.ref b84), .val (.ref b88), .val (.int y10), .val (.ref b88), .val (.int (0 : Int32)), .val (.int (0 : Int32))] [(.ref b84), (.ref b88)])) rfl (by rw [hml]; rfl) (Steps.refl _) (argsL := [(.ref b84)]) (rest := []) (lenOf pd_3 rfl) rfl (by show 2 * 0 + _ ≤ _; exact Nat.le_of_eq rfl) (hb hby at_226) (fun _ _ => ⟨rfl, ec122, (by decide : 7 + 0 ≤ _), (by decide : 48 + 0 ≤ _)⟩)
          dsimp only [Pt.U, Pt.locs, Pt.cells, Pt.slots] at X126 l126 y126 z126 st126 hQ126
          subst l126 y126 z126
          obtain ⟨rfl, Nq126, ec126⟩ := hQ126
          have N126 := Fr.app N122 Nq126
          obtain ⟨fs, hr, hrun, hended, hRW⟩ := X126.leaveW (s := s) hS120 (by rw [ec126]; exact (Nat.le_refl _)) (v := some (.int (1 : Int32))) (fun h => by rw [Bd.returns] at h; cases h)
          refine ⟨_, _, pre121 _ ?_, hrun, hended, _, _, rfl, ⟨rfl, N126⟩, hRW.1, hRW.2.1, hRW.2.2.1, hRW.2.2.2.mono (by decide) (by decide)⟩
          show Steps p.tables e below (T120.setTop (mkF m 127 #[.val (.int p1), .val (.int p2), .val (.int p3), .val (.int p4), .val (.int p5), .val (.ref b1), .val (.int y1), .val (.int y3), .val (.int y5), .val (.int y5), .val (.ref b84), .val (.ref b88), .val (.int y10), .unset, .unset, .unset] [(.int y10)])) _
          refine XS.ifNo X120.here hx rfl (hb hby at_127) rfl ((if0 _ _).trans (teq hf121).2) ?_
          show Steps p.tables e below (T120.setTop (mkF m 130 #[.val (.int p1), .val (.int p2), .val (.int p3), .val (.int p4), .val (.int p5), .val (.ref b1), .val (.int y1), .val (.int y3), .val (.int y5), .val (.int y5), .val (.ref b84), .val (.ref b88), .val (.int y10), .unset, .unset, .unset] [])) _
          refine XS.aload X120.here hx rfl (hb hby at_130) rfl rfl ?_
          refine XS.astore X120.here hx rfl (hb hby at_132) rfl rfl (l' := #[.val (.int p1), .val (.int p2), .val (.int p3), .val (.int p4), .val (.int p5), .val (.ref b1), .val (.int y1), .val (.int y3), .val (.int y5), .val (.int y5), .val (.ref b84), .val (.ref b88), .val (.int y10), .val (.ref b88), .unset, .unset]) rfl ?_
          refine XS.iload X120.here hx rfl (hb hby at_134) rfl ?_
          refine XS.iload X120.here hx rfl (hb hby at_136) rfl ?_
          show Steps p.tables e below (T120.setTop (mkF m 138 #[.val (.int p1), .val (.int p2), .val (.int p3), .val (.int p4), .val (.int p5), .val (.ref b1), .val (.int y1), .val (.int y3), .val (.int y5), .val (.int y5), .val (.ref b84), .val (.ref b88), .val (.int y10), .val (.ref b88), .unset, .unset] [(.int y3), (.int y1)])) _
          refine XS.icmpYes X120.here hx rfl (pc0 := 138) (pc' := 152) rfl (hb hby at_138) rfl (feq hf91).2 (by decide) (by decide) ?_
          show Steps p.tables e below (T120.setTop (mkF m 152 #[.val (.int p1), .val (.int p2), .val (.int p3), .val (.int p4), .val (.int p5), .val (.ref b1), .val (.int y1), .val (.int y3), .val (.int y5), .val (.int y5), .val (.ref b84), .val (.ref b88), .val (.int y10), .val (.ref b88), .unset, .unset] [])) _
          refine XS.iconst X120.here hx rfl (hb hby at_152) ?_
          refine XS.istore X120.here hx rfl (hb hby at_153) rfl (l' := #[.val (.int p1), .val (.int p2), .val (.int p3), .val (.int p4), .val (.int p5), .val (.ref b1), .val (.int y1), .val (.int y3), .val (.int y5), .val (.int y5), .val (.ref b84), .val (.ref b88), .val (.int y10), .val (.ref b88), .val (.int (0 : Int32)), .unset]) rfl ?_
          refine XS.goto X120.here hx rfl (pc0 := 155) (pc' := 199) rfl (hb hby at_155) (by decide) (by decide) ?_
          refine XS.aload X120.here hx rfl (hb hby at_199) rfl rfl ?_
          show Steps p.tables e below (T120.setTop (mkF m 201 #[.val (.int p1), .val (.int p2), .val (.int p3), .val (.int p4), .val (.int p5), .val (.ref b1), .val (.int y1), .val (.int y3), .val (.int y5), .val (.int y5), .val (.ref b84), .val (.ref b88), .val (.int y10), .val (.ref b88), .val (.int (0 : Int32)), .unset] [(.ref b84)])) _
          refine XS.aload X120.here hx rfl (hb hby at_201) rfl rfl ?_
          show Steps p.tables e below (T120.setTop (mkF m 203 #[.val (.int p1), .val (.int p2), .val (.int p3), .val (.int p4), .val (.int p5), .val (.ref b1), .val (.int y1), .val (.int y3), .val (.int y5), .val (.int y5), .val (.ref b84), .val (.ref b88), .val (.int y10), .val (.ref b88), .val (.int (0 : Int32)), .unset] [(.ref b88), (.ref b84)])) _
          refine st122.trans ?_
          show Steps p.tables e below (T122.setTop (mkF m 206 #[.val (.int p1), .val (.int p2), .val (.int p3), .val (.int p4), .val (.int p5), .val (.ref b1), .val (.int y1), .val (.int y3), .val (.int y5), .val (.int y5), .val (.ref b84), .val (.ref b88), .val (.int y10), .val (.ref b88), .val (.int (0 : Int32)), .unset] [(.int (0 : Int32))])) _
          refine XS.istore X122.here hx rfl (hb hby at_206) rfl (l' := #[.val (.int p1), .val (.int p2), .val (.int p3), .val (.int p4), .val (.int p5), .val (.ref b1), .val (.int y1), .val (.int y3), .val (.int y5), .val (.int y5), .val (.ref b84), .val (.ref b88), .val (.int y10), .val (.ref b88), .val (.int (0 : Int32)), .val (.int (0 : Int32))]) rfl ?_
          refine XS.iload X122.here hx rfl (hb hby at_208) rfl ?_
          refine XS.iload X122.here hx rfl (hb hby at_210) rfl ?_
          show Steps p.tables e below (T122.setTop (mkF m 212 #[.val (.int p1), .val (.int p2), .val (.int p3), .val (.int p4), .val (.int p5), .val (.ref b1), .val (.int y1), .val (.int y3), .val (.int y5), .val (.int y5), .val (.ref b84), .val (.ref b88), .val (.int y10), .val (.ref b88), .val (.int (0 : Int32)), .val (.int (0 : Int32))] [(.int (0 : Int32)), (.int (0 : Int32))])) _
          refine XS.icmpYes X122.here hx rfl (pc0 := 212) (pc' := 217) rfl (hb hby at_212) rfl (teq (rfl : (0 : Int32) = (0 : Int32))).1 (by decide) (by decide) ?_
          show Steps p.tables e below (T122.setTop (mkF m 217 #[.val (.int p1), .val (.int p2), .val (.int p3), .val (.int p4), .val (.int p5), .val (.ref b1), .val (.int y1), .val (.int y3), .val (.int y5), .val (.int y5), .val (.ref b84), .val (.ref b88), .val (.int y10), .val (.ref b88), .val (.int (0 : Int32)), .val (.int (0 : Int32))] [])) _
          refine XS.iload X122.here hx rfl (hb hby at_217) rfl ?_
          show Steps p.tables e below (T122.setTop (mkF m 219 #[.val (.int p1), .val (.int p2), .val (.int p3), .val (.int p4), .val (.int p5), .val (.ref b1), .val (.int y1), .val (.int y3), .val (.int y5), .val (.int y5), .val (.ref b84), .val (.ref b88), .val (.int y10), .val (.ref b88), .val (.int (0 : Int32)), .val (.int (0 : Int32))] [(.int y10)])) _
          refine XS.ifNo X122.here hx rfl (hb hby at_219) rfl ((if0 _ _).trans (teq hf121).2) ?_
          show Steps p.tables e below (T122.setTop (mkF m 222 #[.val (.int p1), .val (.int p2), .val (.int p3), .val (.int p4), .val (.int p5), .val (.ref b1), .val (.int y1), .val (.int y3), .val (.int y5), .val (.int y5), .val (.ref b84), .val (.ref b88), .val (.int y10), .val (.ref b88), .val (.int (0 : Int32)), .val (.int (0 : Int32))] [])) _
          refine XS.aload X122.here hx rfl (hb hby at_222) rfl rfl ?_
          refine XS.aload X122.here hx rfl (hb hby at_224) rfl rfl ?_
          show Steps p.tables e below (T122.setTop (mkF m 226 #[.val (.int p1), .val (.int p2), .val (.int p3), .val (.int p4), .val (.int p5), .val (.ref b1), .val (.int y1), .val (.int y3), .val (.int y5), .val (.int y5), .val (.ref b84), .val (.ref b88), .val (.int y10), .val (.ref b88), .val (.int (0 : Int32)), .val (.int (0 : Int32))] [(.ref b84), (.ref b88)])) _
          refine st126.trans ?_
          show Steps p.tables e below (T126.setTop (mkF m 229 #[.val (.int p1), .val (.int p2), .val (.int p3), .val (.int p4), .val (.int p5), .val (.ref b1), .val (.int y1), .val (.int y3), .val (.int y5), .val (.int y5), .val (.ref b84), .val (.ref b88), .val (.int y10), .val (.ref b88), .val (.int (0 : Int32)), .val (.int (0 : Int32))] [(.int (0 : Int32))])) _
          refine XS.iload X126.here hx rfl (hb hby at_229) rfl ?_
          show Steps p.tables e below (T126.setTop (mkF m 231 #[.val (.int p1), .val (.int p2), .val (.int p3), .val (.int p4), .val (.int p5), .val (.ref b1), .val (.int y1), .val (.int y3), .val (.int y5), .val (.int y5), .val (.ref b84), .val (.ref b88), .val (.int y10), .val (.ref b88), .val (.int (0 : Int32)), .val (.int (0 : Int32))] [(.int (0 : Int32)), (.int (0 : Int32))])) _
          refine XS.icmpNo X126.here hx rfl (hb hby at_231) rfl (teq (rfl : (0 : Int32) = (0 : Int32))).2 ?_
          show Steps p.tables e below (T126.setTop (mkF m 234 #[.val (.int p1), .val (.int p2), .val (.int p3), .val (.int p4), .val (.int p5), .val (.ref b1), .val (.int y1), .val (.int y3), .val (.int y5), .val (.int y5), .val (.ref b84), .val (.ref b88), .val (.int y10), .val (.ref b88), .val (.int (0 : Int32)), .val (.int (0 : Int32))] [])) _
          refine XS.iconst X126.here hx rfl (hb hby at_234) ?_
          refine XS.goto X126.here hx rfl (pc0 := 235) (pc' := 239) rfl (hb hby at_235) (by decide) (by decide) ?_
          show Steps p.tables e below (T126.setTop (mkF m 239 #[.val (.int p1), .val (.int p2), .val (.int p3), .val (.int p4), .val (.int p5), .val (.ref b1), .val (.int y1), .val (.int y3), .val (.int y5), .val (.int y5), .val (.ref b84), .val (.ref b88), .val (.int y10), .val (.ref b88), .val (.int (0 : Int32)), .val (.int (0 : Int32))] [(.int (1 : Int32))])) _
          exact retN X126 hx (t := .boolean) Bd.returns (by simp) (hb hby at_239) hr
        · have pre127 : ∀ t, Steps p.tables e below (T120.setTop (mkF m 161 #[.val (.int p1), .val (.int p2), .val (.int p3), .val (.int p4), .val (.int p5), .val (.ref b1), .val (.int y1), .val (.int y3), .val (.int y5), .val (.int y5), .val (.ref b84), .val (.ref b88), .val (.int y10), .unset, .unset, .unset] [(.int (1 : Int32)), (.int y10)])) t → Steps p.tables e below (s₁.setTop (entryFrame m #[(.int p1), (.int p2), (.int p3), (.int p4), (.int p5)] maxLocals)) t := by
            intro t kt
            refine pre121 _ ?_
            show Steps p.tables e below (T120.setTop (mkF m 127 #[.val (.int p1), .val (.int p2), .val (.int p3), .val (.int p4), .val (.int p5), .val (.ref b1), .val (.int y1), .val (.int y3), .val (.int y5), .val (.int y5), .val (.ref b84), .val (.ref b88), .val (.int y10), .unset, .unset, .unset] [(.int y10)])) _
            refine XS.ifYes X120.here hx rfl (pc0 := 127) (pc' := 158) rfl (hb hby at_127) rfl ((if0 _ _).trans (feq hf121).2) (by decide) (by decide) ?_
            show Steps p.tables e below (T120.setTop (mkF m 158 #[.val (.int p1), .val (.int p2), .val (.int p3), .val (.int p4), .val (.int p5), .val (.ref b1), .val (.int y1), .val (.int y3), .val (.int y5), .val (.int y5), .val (.ref b84), .val (.ref b88), .val (.int y10), .unset, .unset, .unset] [])) _
            refine XS.iload X120.here hx rfl (hb hby at_158) rfl ?_
            refine XS.iconst X120.here hx rfl (hb hby at_160) ?_
            exact kt
          by_cases hf127 : y10 = (1 : Int32)
          · have fc129 := (((A84.keep K87).ext E88).keep K120)
            obtain ⟨cq128, kq128, q128a, q128b, q128c⟩ := isOf hZ120 rfl fc129
            obtain ⟨_, _, ⟨T128, L128, k128, n128⟩, -, X128, ⟨Lc128, hQ128, l128, y128, z128⟩, st128⟩ := X120.virtualBack hx (y := (⟨"com/example/larch/larch/model/Interval", "equals", "(Ljava/lang/Object;)Z"⟩ : MethodName)) (z := (⟨"com/example/larch/larch/model/Interval", "equals", "(Ljava/lang/Object;)Z"⟩ : MethodName)) hown120 (mvT hZ120 (wd42 hw)) (mvT hZ120 (wd43 hw)) (notFace_of_selects (args := #[]) (mvT hZ120 (wd45 hw))) (mvT hZ120 (wd45 hw)) (mvT hZ120 (wd44 hw)) (by decide) (backOf (W := 0) (rm5_2 l Z a0 hw [] b84 T120.heap n0 OL120 ) hZ120 (wd46 hw) (wd19 hw) (by decide) (by decide)) q128a q128c (g := (mkF m 203 #[.val (.int p1), .val (.int p2), .val (.int p3), .val (.int p4), .val (.int p5), .val (.ref b1), .val (.int y1), .val (.int y3), .val (.int y5), .val (.int y5), .val (.ref b84), .val (.ref b88), .val (.int y10), .val .null, .val (.int (0 : Int32)), .unset] [.null, (.ref b84)])) rfl (by rw [hml]; rfl) (Steps.refl _) (argsL := [.null]) (rest := []) (lenOf pd_3 rfl) rfl (by show 2 * 0 + _ ≤ _; exact Nat.le_of_eq rfl) (hb hby at_203) (fun _ _ => ⟨rfl, rfl, (by decide : 7 + 0 ≤ _), (by decide : 48 + 0 ≤ _)⟩)
            dsimp only [Pt.U, Pt.locs, Pt.cells, Pt.slots] at X128 l128 y128 z128 st128 hQ128
            subst l128 y128 z128
            obtain ⟨rfl, Nq128, ec128⟩ := hQ128
            have N128 := Fr.app N120 Nq128
            obtain ⟨fs, hr, hrun, hended, hRW⟩ := X128.leaveW (s := s) hS120 (by rw [ec128]; exact (Nat.le_refl _)) (v := some (.int (1 : Int32))) (fun h => by rw [Bd.returns] at h; cases h)
            refine ⟨_, _, pre127 _ ?_, hrun, hended, _, _, rfl, ⟨rfl, N128⟩, hRW.1, hRW.2.1, hRW.2.2.1, hRW.2.2.2.mono (by decide) (by decide)⟩
            show Steps p.tables e below (T120.setTop (mkF m 161 #[.val (.int p1), .val (.int p2), .val (.int p3), .val (.int p4), .val (.int p5), .val (.ref b1), .val (.int y1), .val (.int y3), .val (.int y5), .val (.int y5), .val (.ref b84), .val (.ref b88), .val (.int y10), .unset, .unset, .unset] [(.int (1 : Int32)), (.int y10)])) _
            refine XS.icmpNo X120.here hx rfl (hb hby at_161) rfl (teq hf127).2 ?_
            show Steps p.tables e below (T120.setTop (mkF m 164 #[.val (.int p1), .val (.int p2), .val (.int p3), .val (.int p4), .val (.int p5), .val (.ref b1), .val (.int y1), .val (.int y3), .val (.int y5), .val (.int y5), .val (.ref b84), .val (.ref b88), .val (.int y10), .unset, .unset, .unset] [])) _
            refine XS.aconstNull X120.here hx rfl (hb hby at_164) ?_
            refine XS.astore X120.here hx rfl (hb hby at_165) rfl rfl (l' := #[.val (.int p1), .val (.int p2), .val (.int p3), .val (.int p4), .val (.int p5), .val (.ref b1), .val (.int y1), .val (.int y3), .val (.int y5), .val (.int y5), .val (.ref b84), .val (.ref b88), .val (.int y10), .val .null, .unset, .unset]) rfl ?_
            refine XS.iconst X120.here hx rfl (hb hby at_167) ?_
            refine XS.istore X120.here hx rfl (hb hby at_168) rfl (l' := #[.val (.int p1), .val (.int p2), .val (.int p3), .val (.int p4), .val (.int p5), .val (.ref b1), .val (.int y1), .val (.int y3), .val (.int y5), .val (.int y5), .val (.ref b84), .val (.ref b88), .val (.int y10), .val .null, .val (.int (0 : Int32)), .unset]) rfl ?_
            show Steps p.tables e below (T120.setTop (mkF m 170 #[.val (.int p1), .val (.int p2), .val (.int p3), .val (.int p4), .val (.int p5), .val (.ref b1), .val (.int y1), .val (.int y3), .val (.int y5), .val (.int y5), .val (.ref b84), .val (.ref b88), .val (.int y10), .val .null, .val (.int (0 : Int32)), .unset] [])) _
            refine XS.goto X120.here hx rfl (pc0 := 170) (pc' := 199) rfl (hb hby at_170) (by decide) (by decide) ?_
            refine XS.aload X120.here hx rfl (hb hby at_199) rfl rfl ?_
            refine XS.aload X120.here hx rfl (hb hby at_201) rfl rfl ?_
            show Steps p.tables e below (T120.setTop (mkF m 203 #[.val (.int p1), .val (.int p2), .val (.int p3), .val (.int p4), .val (.int p5), .val (.ref b1), .val (.int y1), .val (.int y3), .val (.int y5), .val (.int y5), .val (.ref b84), .val (.ref b88), .val (.int y10), .val .null, .val (.int (0 : Int32)), .unset] [.null, (.ref b84)])) _
            refine st128.trans ?_
            show Steps p.tables e below (T128.setTop (mkF m 206 #[.val (.int p1), .val (.int p2), .val (.int p3), .val (.int p4), .val (.int p5), .val (.ref b1), .val (.int y1), .val (.int y3), .val (.int y5), .val (.int y5), .val (.ref b84), .val (.ref b88), .val (.int y10), .val .null, .val (.int (0 : Int32)), .unset] [(.int (0 : Int32))])) _
            refine XS.istore X128.here hx rfl (hb hby at_206) rfl (l' := #[.val (.int p1), .val (.int p2), .val (.int p3), .val (.int p4), .val (.int p5), .val (.ref b1), .val (.int y1), .val (.int y3), .val (.int y5), .val (.int y5), .val (.ref b84), .val (.ref b88), .val (.int y10), .val .null, .val (.int (0 : Int32)), .val (.int (0 : Int32))]) rfl ?_
            refine XS.iload X128.here hx rfl (hb hby at_208) rfl ?_
            refine XS.iload X128.here hx rfl (hb hby at_210) rfl ?_
            show Steps p.tables e below (T128.setTop (mkF m 212 #[.val (.int p1), .val (.int p2), .val (.int p3), .val (.int p4), .val (.int p5), .val (.ref b1), .val (.int y1), .val (.int y3), .val (.int y5), .val (.int y5), .val (.ref b84), .val (.ref b88), .val (.int y10), .val .null, .val (.int (0 : Int32)), .val (.int (0 : Int32))] [(.int (0 : Int32)), (.int (0 : Int32))])) _
            refine XS.icmpYes X128.here hx rfl (pc0 := 212) (pc' := 217) rfl (hb hby at_212) rfl (teq (rfl : (0 : Int32) = (0 : Int32))).1 (by decide) (by decide) ?_
            show Steps p.tables e below (T128.setTop (mkF m 217 #[.val (.int p1), .val (.int p2), .val (.int p3), .val (.int p4), .val (.int p5), .val (.ref b1), .val (.int y1), .val (.int y3), .val (.int y5), .val (.int y5), .val (.ref b84), .val (.ref b88), .val (.int y10), .val .null, .val (.int (0 : Int32)), .val (.int (0 : Int32))] [])) _
            refine XS.iload X128.here hx rfl (hb hby at_217) rfl ?_
            show Steps p.tables e below (T128.setTop (mkF m 219 #[.val (.int p1), .val (.int p2), .val (.int p3), .val (.int p4), .val (.int p5), .val (.ref b1), .val (.int y1), .val (.int y3), .val (.int y5), .val (.int y5), .val (.ref b84), .val (.ref b88), .val (.int y10), .val .null, .val (.int (0 : Int32)), .val (.int (0 : Int32))] [(.int y10)])) _
            refine XS.ifYes X128.here hx rfl (pc0 := 219) (pc' := 240) rfl (hb hby at_219) rfl ((if0 _ _).trans (feq hf121).2) (by decide) (by decide) ?_
            show Steps p.tables e below (T128.setTop (mkF m 240 #[.val (.int p1), .val (.int p2), .val (.int p3), .val (.int p4), .val (.int p5), .val (.ref b1), .val (.int y1), .val (.int y3), .val (.int y5), .val (.int y5), .val (.ref b84), .val (.ref b88), .val (.int y10), .val .null, .val (.int (0 : Int32)), .val (.int (0 : Int32))] [])) _
            refine XS.iconst X128.here hx rfl (hb hby at_240) ?_
            show Steps p.tables e below (T128.setTop (mkF m 241 #[.val (.int p1), .val (.int p2), .val (.int p3), .val (.int p4), .val (.int p5), .val (.ref b1), .val (.int y1), .val (.int y3), .val (.int y5), .val (.int y5), .val (.ref b84), .val (.ref b88), .val (.int y10), .val .null, .val (.int (0 : Int32)), .val (.int (0 : Int32))] [(.int (1 : Int32))])) _
            exact retN X128 hx (t := .boolean) Bd.returns (by simp) (hb hby at_241) hr
          · have pre130 : ∀ t, Steps p.tables e below (T120.setTop (mkF m 176 #[.val (.int p1), .val (.int p2), .val (.int p3), .val (.int p4), .val (.int p5), .val (.ref b1), .val (.int y1), .val (.int y3), .val (.int y5), .val (.int y5), .val (.ref b84), .val (.ref b88), .val (.int y10), .unset, .unset, .unset] [(.int (2 : Int32)), (.int y10)])) t → Steps p.tables e below (s₁.setTop (entryFrame m #[(.int p1), (.int p2), (.int p3), (.int p4), (.int p5)] maxLocals)) t := by
              intro t kt
              refine pre127 _ ?_
              show Steps p.tables e below (T120.setTop (mkF m 161 #[.val (.int p1), .val (.int p2), .val (.int p3), .val (.int p4), .val (.int p5), .val (.ref b1), .val (.int y1), .val (.int y3), .val (.int y5), .val (.int y5), .val (.ref b84), .val (.ref b88), .val (.int y10), .unset, .unset, .unset] [(.int (1 : Int32)), (.int y10)])) _
              refine XS.icmpYes X120.here hx rfl (pc0 := 161) (pc' := 173) rfl (hb hby at_161) rfl (feq hf127).2 (by decide) (by decide) ?_
              show Steps p.tables e below (T120.setTop (mkF m 173 #[.val (.int p1), .val (.int p2), .val (.int p3), .val (.int p4), .val (.int p5), .val (.ref b1), .val (.int y1), .val (.int y3), .val (.int y5), .val (.int y5), .val (.ref b84), .val (.ref b88), .val (.int y10), .unset, .unset, .unset] [])) _
              refine XS.iload X120.here hx rfl (hb hby at_173) rfl ?_
              refine XS.iconst X120.here hx rfl (hb hby at_175) ?_
              exact kt
            by_cases hf130 : y10 = (2 : Int32)
            · have pre131 : ∀ t, Steps p.tables e below (T120.setTop (mkF m 181 #[.val (.int p1), .val (.int p2), .val (.int p3), .val (.int p4), .val (.int p5), .val (.ref b1), .val (.int y1), .val (.int y3), .val (.int y5), .val (.int y5), .val (.ref b84), .val (.ref b88), .val (.int y10), .unset, .unset, .unset] [(.int y5)])) t → Steps p.tables e below (s₁.setTop (entryFrame m #[(.int p1), (.int p2), (.int p3), (.int p4), (.int p5)] maxLocals)) t := by
                intro t kt
                refine pre130 _ ?_
                show Steps p.tables e below (T120.setTop (mkF m 176 #[.val (.int p1), .val (.int p2), .val (.int p3), .val (.int p4), .val (.int p5), .val (.ref b1), .val (.int y1), .val (.int y3), .val (.int y5), .val (.int y5), .val (.ref b84), .val (.ref b88), .val (.int y10), .unset, .unset, .unset] [(.int (2 : Int32)), (.int y10)])) _
                refine XS.icmpNo X120.here hx rfl (hb hby at_176) rfl (teq hf130).2 ?_
                show Steps p.tables e below (T120.setTop (mkF m 179 #[.val (.int p1), .val (.int p2), .val (.int p3), .val (.int p4), .val (.int p5), .val (.ref b1), .val (.int y1), .val (.int y3), .val (.int y5), .val (.int y5), .val (.ref b84), .val (.ref b88), .val (.int y10), .unset, .unset, .unset] [])) _
                refine XS.iload X120.here hx rfl (hb hby at_179) rfl ?_
                exact kt
              by_cases hf131 : (127 : Int32) < y5
              · obtain ⟨_, _, ⟨T132, L132, k132, n132⟩, -, X132, ⟨Lc132, hQ132, l132, y132, z132⟩, st132⟩ := Jvm.LawKit.callS X120 hx (y := (⟨"java/lang/Integer", "valueOf", "(I)Ljava/lang/Integer;"⟩ : MethodName)) hown120 (mvT hZ120 (wd49 hw)) (mvT hZ120 (wd50 hw)) (mvT hZ120 (wd51 hw)) (mvT hZ120 (wd52 hw)) (by decide) (backOf (W := 0) (rm6_0 l Z a0 hw [] y5 T120.heap n0 OL120 pr26 pr27 hf131) hZ120 (wd52 hw) (wd51 hw) (by decide) (by decide)) (g := (mkF m 181 #[.val (.int p1), .val (.int p2), .val (.int p3), .val (.int p4), .val (.int p5), .val (.ref b1), .val (.int y1), .val (.int y3), .val (.int y5), .val (.int y5), .val (.ref b84), .val (.ref b88), .val (.int y10), .unset, .unset, .unset] [(.int y5)])) rfl (by rw [hml]; rfl) (argsL := [(.int y5)]) (rest := []) (lenOf pd_6 rfl) rfl (by show 2 * 0 + _ ≤ _; exact Nat.le_of_eq rfl) (hb hby at_181) (fun _ _ => ⟨rfl, rfl, (by decide : 7 + 1 ≤ _), (by decide : 48 + 1 ≤ _)⟩)
                dsimp only [Pt.U, Pt.locs, Pt.cells, Pt.slots] at X132 l132 y132 z132 st132 hQ132
                subst l132 y132 z132
                obtain ⟨b132_0, rfl, Nq132, K132, u132_0, u132_1, u132_2⟩ := hQ132
                have KK132 : Keep h0 T132.heap [] := KK120.trans K132 all0
                have OL132 := OL120.keep K132 all0
                have g_b132_0 : n0 ≤ b132_0 := Nat.le_trans (Nat.le_trans (Nat.le_of_eq OL120.1.symm) OL120.2.1) u132_0
                have sz_b132_0 : h0.size ≤ b132_0 := Nat.le_trans KK120.1 u132_0
                have N132 := Fr.app N120 Nq132
                have fc134 := ((((A84.keep K87).ext E88).keep K120).keep K132)
                obtain ⟨cq133, kq133, q133a, q133b, q133c⟩ := isOf hZ120 rfl fc134
                obtain ⟨_, _, ⟨T133, L133, k133, n133⟩, -, X133, ⟨Lc133, hQ133, l133, y133, z133⟩, st133⟩ := X132.virtualBack hx (y := (⟨"com/example/larch/larch/model/Interval", "equals", "(Ljava/lang/Object;)Z"⟩ : MethodName)) (z := (⟨"com/example/larch/larch/model/Interval", "equals", "(Ljava/lang/Object;)Z"⟩ : MethodName)) hown120 (mvT hZ120 (wd42 hw)) (mvT hZ120 (wd43 hw)) (notFace_of_selects (args := #[]) (mvT hZ120 (wd45 hw))) (mvT hZ120 (wd45 hw)) (mvT hZ120 (wd44 hw)) (by decide) (backOf (W := 0) (rm5_3 l Z a0 hw [] b84 b132_0 T132.heap n0 OL132 u132_1) hZ120 (wd46 hw) (wd19 hw) (by decide) (by decide)) q133a q133c (g := (mkF m 203 #[.val (.int p1), .val (.int p2), .val (.int p3), .val (.int p4), .val (.int p5), .val (.ref b1), .val (.int y1), .val (.int y3), .val (.int y5), .val (.int y5), .val (.ref b84), .val (.ref b88), .val (.int y10), .val (.ref b132_0), .val (.int (0 : Int32)), .unset] [(.ref b132_0), (.ref b84)])) rfl (by rw [hml]; rfl) (Steps.refl _) (argsL := [(.ref b132_0)]) (rest := []) (lenOf pd_3 rfl) rfl (by show 2 * 0 + _ ≤ _; exact Nat.le_of_eq rfl) (hb hby at_203) (fun _ _ => ⟨rfl, rfl, (by decide : 8 + 0 ≤ _), (by decide : 49 + 0 ≤ _)⟩)
                dsimp only [Pt.U, Pt.locs, Pt.cells, Pt.slots] at X133 l133 y133 z133 st133 hQ133
                subst l133 y133 z133
                obtain ⟨rfl, Nq133, ec133⟩ := hQ133
                have N133 := Fr.app N132 Nq133
                obtain ⟨fs, hr, hrun, hended, hRW⟩ := X133.leaveW (s := s) hS120 (by rw [ec133]; exact (Nat.le_trans (Nat.le_refl _) K132.1)) (v := some (.int (1 : Int32))) (fun h => by rw [Bd.returns] at h; cases h)
                refine ⟨_, _, pre131 _ ?_, hrun, hended, _, _, rfl, ⟨rfl, N133⟩, hRW.1, hRW.2.1, hRW.2.2.1, hRW.2.2.2.mono (by decide) (by decide)⟩
                show Steps p.tables e below (T120.setTop (mkF m 181 #[.val (.int p1), .val (.int p2), .val (.int p3), .val (.int p4), .val (.int p5), .val (.ref b1), .val (.int y1), .val (.int y3), .val (.int y5), .val (.int y5), .val (.ref b84), .val (.ref b88), .val (.int y10), .unset, .unset, .unset] [(.int y5)])) _
                refine st132 _ ?_
                show Steps p.tables e below (T132.setTop (mkF m 184 #[.val (.int p1), .val (.int p2), .val (.int p3), .val (.int p4), .val (.int p5), .val (.ref b1), .val (.int y1), .val (.int y3), .val (.int y5), .val (.int y5), .val (.ref b84), .val (.ref b88), .val (.int y10), .unset, .unset, .unset] [(.ref b132_0)])) _
                refine XS.astore X132.here hx rfl (hb hby at_184) rfl rfl (l' := #[.val (.int p1), .val (.int p2), .val (.int p3), .val (.int p4), .val (.int p5), .val (.ref b1), .val (.int y1), .val (.int y3), .val (.int y5), .val (.int y5), .val (.ref b84), .val (.ref b88), .val (.int y10), .val (.ref b132_0), .unset, .unset]) rfl ?_
                refine XS.iconst X132.here hx rfl (hb hby at_186) ?_
                refine XS.istore X132.here hx rfl (hb hby at_187) rfl (l' := #[.val (.int p1), .val (.int p2), .val (.int p3), .val (.int p4), .val (.int p5), .val (.ref b1), .val (.int y1), .val (.int y3), .val (.int y5), .val (.int y5), .val (.ref b84), .val (.ref b88), .val (.int y10), .val (.ref b132_0), .val (.int (0 : Int32)), .unset]) rfl ?_
                refine XS.goto X132.here hx rfl (pc0 := 189) (pc' := 199) rfl (hb hby at_189) (by decide) (by decide) ?_
                show Steps p.tables e below (T132.setTop (mkF m 199 #[.val (.int p1), .val (.int p2), .val (.int p3), .val (.int p4), .val (.int p5), .val (.ref b1), .val (.int y1), .val (.int y3), .val (.int y5), .val (.int y5), .val (.ref b84), .val (.ref b88), .val (.int y10), .val (.ref b132_0), .val (.int (0 : Int32)), .unset] [])) _
                refine XS.aload X132.here hx rfl (hb hby at_199) rfl rfl ?_
                refine XS.aload X132.here hx rfl (hb hby at_201) rfl rfl ?_
                show Steps p.tables e below (T132.setTop (mkF m 203 #[.val (.int p1), .val (.int p2), .val (.int p3), .val (.int p4), .val (.int p5), .val (.ref b1), .val (.int y1), .val (.int y3), .val (.int y5), .val (.int y5), .val (.ref b84), .val (.ref b88), .val (.int y10), .val (.ref b132_0), .val (.int (0 : Int32)), .unset] [(.ref b132_0), (.ref b84)])) _
                refine st133.trans ?_
                show Steps p.tables e below (T133.setTop (mkF m 206 #[.val (.int p1), .val (.int p2), .val (.int p3), .val (.int p4), .val (.int p5), .val (.ref b1), .val (.int y1), .val (.int y3), .val (.int y5), .val (.int y5), .val (.ref b84), .val (.ref b88), .val (.int y10), .val (.ref b132_0), .val (.int (0 : Int32)), .unset] [(.int (0 : Int32))])) _
                refine XS.istore X133.here hx rfl (hb hby at_206) rfl (l' := #[.val (.int p1), .val (.int p2), .val (.int p3), .val (.int p4), .val (.int p5), .val (.ref b1), .val (.int y1), .val (.int y3), .val (.int y5), .val (.int y5), .val (.ref b84), .val (.ref b88), .val (.int y10), .val (.ref b132_0), .val (.int (0 : Int32)), .val (.int (0 : Int32))]) rfl ?_
                refine XS.iload X133.here hx rfl (hb hby at_208) rfl ?_
                refine XS.iload X133.here hx rfl (hb hby at_210) rfl ?_
                show Steps p.tables e below (T133.setTop (mkF m 212 #[.val (.int p1), .val (.int p2), .val (.int p3), .val (.int p4), .val (.int p5), .val (.ref b1), .val (.int y1), .val (.int y3), .val (.int y5), .val (.int y5), .val (.ref b84), .val (.ref b88), .val (.int y10), .val (.ref b132_0), .val (.int (0 : Int32)), .val (.int (0 : Int32))] [(.int (0 : Int32)), (.int (0 : Int32))])) _
                refine XS.icmpYes X133.here hx rfl (pc0 := 212) (pc' := 217) rfl (hb hby at_212) rfl (teq (rfl : (0 : Int32) = (0 : Int32))).1 (by decide) (by decide) ?_
                show Steps p.tables e below (T133.setTop (mkF m 217 #[.val (.int p1), .val (.int p2), .val (.int p3), .val (.int p4), .val (.int p5), .val (.ref b1), .val (.int y1), .val (.int y3), .val (.int y5), .val (.int y5), .val (.ref b84), .val (.ref b88), .val (.int y10), .val (.ref b132_0), .val (.int (0 : Int32)), .val (.int (0 : Int32))] [])) _
                refine XS.iload X133.here hx rfl (hb hby at_217) rfl ?_
                show Steps p.tables e below (T133.setTop (mkF m 219 #[.val (.int p1), .val (.int p2), .val (.int p3), .val (.int p4), .val (.int p5), .val (.ref b1), .val (.int y1), .val (.int y3), .val (.int y5), .val (.int y5), .val (.ref b84), .val (.ref b88), .val (.int y10), .val (.ref b132_0), .val (.int (0 : Int32)), .val (.int (0 : Int32))] [(.int y10)])) _
                refine XS.ifYes X133.here hx rfl (pc0 := 219) (pc' := 240) rfl (hb hby at_219) rfl ((if0 _ _).trans (feq hf121).2) (by decide) (by decide) ?_
                show Steps p.tables e below (T133.setTop (mkF m 240 #[.val (.int p1), .val (.int p2), .val (.int p3), .val (.int p4), .val (.int p5), .val (.ref b1), .val (.int y1), .val (.int y3), .val (.int y5), .val (.int y5), .val (.ref b84), .val (.ref b88), .val (.int y10), .val (.ref b132_0), .val (.int (0 : Int32)), .val (.int (0 : Int32))] [])) _
                refine XS.iconst X133.here hx rfl (hb hby at_240) ?_
                show Steps p.tables e below (T133.setTop (mkF m 241 #[.val (.int p1), .val (.int p2), .val (.int p3), .val (.int p4), .val (.int p5), .val (.ref b1), .val (.int y1), .val (.int y3), .val (.int y5), .val (.int y5), .val (.ref b84), .val (.ref b88), .val (.int y10), .val (.ref b132_0), .val (.int (0 : Int32)), .val (.int (0 : Int32))] [(.int (1 : Int32))])) _
                exact retN X133 hx (t := .boolean) Bd.returns (by simp) (hb hby at_241) hr
              · obtain ⟨cx135, bx135⟩ := id pr28
                obtain ⟨wc1, at135, Ea135, Fa135⟩ := own_box bx135 (j := (y5 + (128 : Int32))) (own_inbox pr26 hf131).1 (own_inbox pr26 hf131).2
                simp only [own_addsub] at Fa135
                obtain ⟨_, _, ⟨T136, L136, k136, n136⟩, -, X136, ⟨Lc136, hQ136, l136, y136, z136⟩, st136⟩ := Jvm.LawKit.callS X120 hx (y := (⟨"java/lang/Integer", "valueOf", "(I)Ljava/lang/Integer;"⟩ : MethodName)) hown120 (mvT hZ120 (wd49 hw)) (mvT hZ120 (wd50 hw)) (mvT hZ120 (wd51 hw)) (mvT hZ120 (wd52 hw)) (by decide) (backOf (W := 0) (rm6_1 l Z a0 hw [] y5 w_cache wc1 T120.heap n0 OL120 pr26 pr27 hf131 pr29 at135) hZ120 (wd52 hw) (wd51 hw) (by decide) (by decide)) (g := (mkF m 181 #[.val (.int p1), .val (.int p2), .val (.int p3), .val (.int p4), .val (.int p5), .val (.ref b1), .val (.int y1), .val (.int y3), .val (.int y5), .val (.int y5), .val (.ref b84), .val (.ref b88), .val (.int y10), .unset, .unset, .unset] [(.int y5)])) rfl (by rw [hml]; rfl) (argsL := [(.int y5)]) (rest := []) (lenOf pd_6 rfl) rfl (by show 2 * 0 + _ ≤ _; exact Nat.le_of_eq rfl) (hb hby at_181) (fun _ _ => ⟨rfl, rfl, (by decide : 7 + 0 ≤ _), (by decide : 48 + 0 ≤ _)⟩)
                dsimp only [Pt.U, Pt.locs, Pt.cells, Pt.slots] at X136 l136 y136 z136 st136 hQ136
                subst l136 y136 z136
                obtain ⟨rfl, Nq136, ec136⟩ := hQ136
                have N136 := Fr.app N120 Nq136
                have fc138 := (((A84.keep K87).ext E88).keep K120)
                obtain ⟨cq137, kq137, q137a, q137b, q137c⟩ := isOf hZ120 ec136 fc138
                obtain ⟨_, _, ⟨T137, L137, k137, n137⟩, -, X137, ⟨Lc137, hQ137, l137, y137, z137⟩, st137⟩ := X136.virtualBack hx (y := (⟨"com/example/larch/larch/model/Interval", "equals", "(Ljava/lang/Object;)Z"⟩ : MethodName)) (z := (⟨"com/example/larch/larch/model/Interval", "equals", "(Ljava/lang/Object;)Z"⟩ : MethodName)) hown120 (mvT hZ120 (wd42 hw)) (mvT hZ120 (wd43 hw)) (notFace_of_selects (args := #[]) (mvT hZ120 (wd45 hw))) (mvT hZ120 (wd45 hw)) (mvT hZ120 (wd44 hw)) (by decide) (backOf (W := 0) (rm5_4 l Z a0 hw [] b84 wc1 T120.heap n0 OL120 Ea135) hZ120 (wd46 hw) (wd19 hw) (by decide) (by decide)) q137a q137c (g := (mkF m 203 #[.val (.int p1), .val (.int p2), .val (.int p3), .val (.int p4), .val (.int p5), .val (.ref b1), .val (.int y1), .val (.int y3), .val (.int y5), .val (.int y5), .val (.ref b84), .val (.ref b88), .val (.int y10), .val (.ref wc1), .val (.int (0 : Int32)), .unset] [(.ref wc1), (.ref b84)])) rfl (by rw [hml]; rfl) (Steps.refl _) (argsL := [(.ref wc1)]) (rest := []) (lenOf pd_3 rfl) rfl (by show 2 * 0 + _ ≤ _; exact Nat.le_of_eq rfl) (hb hby at_203) (fun _ _ => ⟨rfl, ec136, (by decide : 7 + 0 ≤ _), (by decide : 48 + 0 ≤ _)⟩)
                dsimp only [Pt.U, Pt.locs, Pt.cells, Pt.slots] at X137 l137 y137 z137 st137 hQ137
                subst l137 y137 z137
                obtain ⟨rfl, Nq137, ec137⟩ := hQ137
                have N137 := Fr.app N136 Nq137
                obtain ⟨fs, hr, hrun, hended, hRW⟩ := X137.leaveW (s := s) hS120 (by rw [ec137]; exact (Nat.le_refl _)) (v := some (.int (1 : Int32))) (fun h => by rw [Bd.returns] at h; cases h)
                refine ⟨_, _, pre131 _ ?_, hrun, hended, _, _, rfl, ⟨rfl, N137⟩, hRW.1, hRW.2.1, hRW.2.2.1, hRW.2.2.2.mono (by decide) (by decide)⟩
                show Steps p.tables e below (T120.setTop (mkF m 181 #[.val (.int p1), .val (.int p2), .val (.int p3), .val (.int p4), .val (.int p5), .val (.ref b1), .val (.int y1), .val (.int y3), .val (.int y5), .val (.int y5), .val (.ref b84), .val (.ref b88), .val (.int y10), .unset, .unset, .unset] [(.int y5)])) _
                refine st136 _ ?_
                show Steps p.tables e below (T136.setTop (mkF m 184 #[.val (.int p1), .val (.int p2), .val (.int p3), .val (.int p4), .val (.int p5), .val (.ref b1), .val (.int y1), .val (.int y3), .val (.int y5), .val (.int y5), .val (.ref b84), .val (.ref b88), .val (.int y10), .unset, .unset, .unset] [(.ref wc1)])) _
                refine XS.astore X136.here hx rfl (hb hby at_184) rfl rfl (l' := #[.val (.int p1), .val (.int p2), .val (.int p3), .val (.int p4), .val (.int p5), .val (.ref b1), .val (.int y1), .val (.int y3), .val (.int y5), .val (.int y5), .val (.ref b84), .val (.ref b88), .val (.int y10), .val (.ref wc1), .unset, .unset]) rfl ?_
                refine XS.iconst X136.here hx rfl (hb hby at_186) ?_
                refine XS.istore X136.here hx rfl (hb hby at_187) rfl (l' := #[.val (.int p1), .val (.int p2), .val (.int p3), .val (.int p4), .val (.int p5), .val (.ref b1), .val (.int y1), .val (.int y3), .val (.int y5), .val (.int y5), .val (.ref b84), .val (.ref b88), .val (.int y10), .val (.ref wc1), .val (.int (0 : Int32)), .unset]) rfl ?_
                refine XS.goto X136.here hx rfl (pc0 := 189) (pc' := 199) rfl (hb hby at_189) (by decide) (by decide) ?_
                show Steps p.tables e below (T136.setTop (mkF m 199 #[.val (.int p1), .val (.int p2), .val (.int p3), .val (.int p4), .val (.int p5), .val (.ref b1), .val (.int y1), .val (.int y3), .val (.int y5), .val (.int y5), .val (.ref b84), .val (.ref b88), .val (.int y10), .val (.ref wc1), .val (.int (0 : Int32)), .unset] [])) _
                refine XS.aload X136.here hx rfl (hb hby at_199) rfl rfl ?_
                refine XS.aload X136.here hx rfl (hb hby at_201) rfl rfl ?_
                show Steps p.tables e below (T136.setTop (mkF m 203 #[.val (.int p1), .val (.int p2), .val (.int p3), .val (.int p4), .val (.int p5), .val (.ref b1), .val (.int y1), .val (.int y3), .val (.int y5), .val (.int y5), .val (.ref b84), .val (.ref b88), .val (.int y10), .val (.ref wc1), .val (.int (0 : Int32)), .unset] [(.ref wc1), (.ref b84)])) _
                refine st137.trans ?_
                show Steps p.tables e below (T137.setTop (mkF m 206 #[.val (.int p1), .val (.int p2), .val (.int p3), .val (.int p4), .val (.int p5), .val (.ref b1), .val (.int y1), .val (.int y3), .val (.int y5), .val (.int y5), .val (.ref b84), .val (.ref b88), .val (.int y10), .val (.ref wc1), .val (.int (0 : Int32)), .unset] [(.int (0 : Int32))])) _
                refine XS.istore X137.here hx rfl (hb hby at_206) rfl (l' := #[.val (.int p1), .val (.int p2), .val (.int p3), .val (.int p4), .val (.int p5), .val (.ref b1), .val (.int y1), .val (.int y3), .val (.int y5), .val (.int y5), .val (.ref b84), .val (.ref b88), .val (.int y10), .val (.ref wc1), .val (.int (0 : Int32)), .val (.int (0 : Int32))]) rfl ?_
                refine XS.iload X137.here hx rfl (hb hby at_208) rfl ?_
                refine XS.iload X137.here hx rfl (hb hby at_210) rfl ?_
                show Steps p.tables e below (T137.setTop (mkF m 212 #[.val (.int p1), .val (.int p2), .val (.int p3), .val (.int p4), .val (.int p5), .val (.ref b1), .val (.int y1), .val (.int y3), .val (.int y5), .val (.int y5), .val (.ref b84), .val (.ref b88), .val (.int y10), .val (.ref wc1), .val (.int (0 : Int32)), .val (.int (0 : Int32))] [(.int (0 : Int32)), (.int (0 : Int32))])) _
                refine XS.icmpYes X137.here hx rfl (pc0 := 212) (pc' := 217) rfl (hb hby at_212) rfl (teq (rfl : (0 : Int32) = (0 : Int32))).1 (by decide) (by decide) ?_
                show Steps p.tables e below (T137.setTop (mkF m 217 #[.val (.int p1), .val (.int p2), .val (.int p3), .val (.int p4), .val (.int p5), .val (.ref b1), .val (.int y1), .val (.int y3), .val (.int y5), .val (.int y5), .val (.ref b84), .val (.ref b88), .val (.int y10), .val (.ref wc1), .val (.int (0 : Int32)), .val (.int (0 : Int32))] [])) _
                refine XS.iload X137.here hx rfl (hb hby at_217) rfl ?_
                show Steps p.tables e below (T137.setTop (mkF m 219 #[.val (.int p1), .val (.int p2), .val (.int p3), .val (.int p4), .val (.int p5), .val (.ref b1), .val (.int y1), .val (.int y3), .val (.int y5), .val (.int y5), .val (.ref b84), .val (.ref b88), .val (.int y10), .val (.ref wc1), .val (.int (0 : Int32)), .val (.int (0 : Int32))] [(.int y10)])) _
                refine XS.ifYes X137.here hx rfl (pc0 := 219) (pc' := 240) rfl (hb hby at_219) rfl ((if0 _ _).trans (feq hf121).2) (by decide) (by decide) ?_
                show Steps p.tables e below (T137.setTop (mkF m 240 #[.val (.int p1), .val (.int p2), .val (.int p3), .val (.int p4), .val (.int p5), .val (.ref b1), .val (.int y1), .val (.int y3), .val (.int y5), .val (.int y5), .val (.ref b84), .val (.ref b88), .val (.int y10), .val (.ref wc1), .val (.int (0 : Int32)), .val (.int (0 : Int32))] [])) _
                refine XS.iconst X137.here hx rfl (hb hby at_240) ?_
                show Steps p.tables e below (T137.setTop (mkF m 241 #[.val (.int p1), .val (.int p2), .val (.int p3), .val (.int p4), .val (.int p5), .val (.ref b1), .val (.int y1), .val (.int y3), .val (.int y5), .val (.int y5), .val (.ref b84), .val (.ref b88), .val (.int y10), .val (.ref wc1), .val (.int (0 : Int32)), .val (.int (0 : Int32))] [(.int (1 : Int32))])) _
                exact retN X137 hx (t := .boolean) Bd.returns (by simp) (hb hby at_241) hr
            · have fc140 := (((A84.keep K87).ext E88).keep K120)
              have fc141 := ((u87_0.ext E88).keep K120 (ninS (Nat.ne_of_lt (Nat.lt_of_lt_of_le u87_1.lt (Nat.le_of_eq g88.symm))) nin0))
              have fc142 := ((u87_1.ext E88).keep K120 (ninS (Nat.ne_of_lt (Nat.lt_of_lt_of_le u87_1.lt (Nat.le_of_eq g88.symm))) nin0))
              obtain ⟨cq139, kq139, q139a, q139b, q139c⟩ := isOf hZ120 rfl fc140
              obtain ⟨_, _, ⟨T139, L139, k139, n139⟩, -, X139, ⟨Lc139, hQ139, l139, y139, z139⟩, st139⟩ := X120.virtualBack hx (y := (⟨"com/example/larch/larch/model/Interval", "equals", "(Ljava/lang/Object;)Z"⟩ : MethodName)) (z := (⟨"com/example/larch/larch/model/Interval", "equals", "(Ljava/lang/Object;)Z"⟩ : MethodName)) hown120 (mvT hZ120 (wd42 hw)) (mvT hZ120 (wd43 hw)) (notFace_of_selects (args := #[]) (mvT hZ120 (wd45 hw))) (mvT hZ120 (wd45 hw)) (mvT hZ120 (wd44 hw)) (by decide) (backOf (W := 0) (rm5_5 l Z a0 hw [] b84 v1 y5 T120.heap n0 OL120 fc140 fc141 fc142) hZ120 (wd46 hw) (wd19 hw) (by decide) (by decide)) q139a q139c (g := (mkF m 203 #[.val (.int p1), .val (.int p2), .val (.int p3), .val (.int p4), .val (.int p5), .val (.ref b1), .val (.int y1), .val (.int y3), .val (.int y5), .val (.int y5), .val (.ref b84), .val (.ref b88), .val (.int y10), .val (.ref b84), .val (.int (1 : Int32)), .unset] [(.ref b84), (.ref b84)])) rfl (by rw [hml]; rfl) (Steps.refl _) (argsL := [(.ref b84)]) (rest := []) (lenOf pd_3 rfl) rfl (by show 2 * 0 + _ ≤ _; exact Nat.le_of_eq rfl) (hb hby at_203) (fun _ _ => ⟨rfl, rfl, (by decide : 7 + 0 ≤ _), (by decide : 48 + 0 ≤ _)⟩)
              dsimp only [Pt.U, Pt.locs, Pt.cells, Pt.slots] at X139 l139 y139 z139 st139 hQ139
              subst l139 y139 z139
              obtain ⟨rfl, Nq139, ec139⟩ := hQ139
              have N139 := Fr.app N120 Nq139
              obtain ⟨fs, hr, hrun, hended, hRW⟩ := X139.leaveW (s := s) hS120 (by rw [ec139]; exact (Nat.le_refl _)) (v := some (.int (1 : Int32))) (fun h => by rw [Bd.returns] at h; cases h)
              refine ⟨_, _, pre130 _ ?_, hrun, hended, _, _, rfl, ⟨rfl, N139⟩, hRW.1, hRW.2.1, hRW.2.2.1, hRW.2.2.2.mono (by decide) (by decide)⟩
              show Steps p.tables e below (T120.setTop (mkF m 176 #[.val (.int p1), .val (.int p2), .val (.int p3), .val (.int p4), .val (.int p5), .val (.ref b1), .val (.int y1), .val (.int y3), .val (.int y5), .val (.int y5), .val (.ref b84), .val (.ref b88), .val (.int y10), .unset, .unset, .unset] [(.int (2 : Int32)), (.int y10)])) _
              refine XS.icmpYes X120.here hx rfl (pc0 := 176) (pc' := 192) rfl (hb hby at_176) rfl (feq hf130).2 (by decide) (by decide) ?_
              show Steps p.tables e below (T120.setTop (mkF m 192 #[.val (.int p1), .val (.int p2), .val (.int p3), .val (.int p4), .val (.int p5), .val (.ref b1), .val (.int y1), .val (.int y3), .val (.int y5), .val (.int y5), .val (.ref b84), .val (.ref b88), .val (.int y10), .unset, .unset, .unset] [])) _
              refine XS.aload X120.here hx rfl (hb hby at_192) rfl rfl ?_
              refine XS.astore X120.here hx rfl (hb hby at_194) rfl rfl (l' := #[.val (.int p1), .val (.int p2), .val (.int p3), .val (.int p4), .val (.int p5), .val (.ref b1), .val (.int y1), .val (.int y3), .val (.int y5), .val (.int y5), .val (.ref b84), .val (.ref b88), .val (.int y10), .val (.ref b84), .unset, .unset]) rfl ?_
              refine XS.iconst X120.here hx rfl (hb hby at_196) ?_
              refine XS.istore X120.here hx rfl (hb hby at_197) rfl (l' := #[.val (.int p1), .val (.int p2), .val (.int p3), .val (.int p4), .val (.int p5), .val (.ref b1), .val (.int y1), .val (.int y3), .val (.int y5), .val (.int y5), .val (.ref b84), .val (.ref b88), .val (.int y10), .val (.ref b84), .val (.int (1 : Int32)), .unset]) rfl ?_
              show Steps p.tables e below (T120.setTop (mkF m 199 #[.val (.int p1), .val (.int p2), .val (.int p3), .val (.int p4), .val (.int p5), .val (.ref b1), .val (.int y1), .val (.int y3), .val (.int y5), .val (.int y5), .val (.ref b84), .val (.ref b88), .val (.int y10), .val (.ref b84), .val (.int (1 : Int32)), .unset] [])) _
              refine XS.aload X120.here hx rfl (hb hby at_199) rfl rfl ?_
              refine XS.aload X120.here hx rfl (hb hby at_201) rfl rfl ?_
              show Steps p.tables e below (T120.setTop (mkF m 203 #[.val (.int p1), .val (.int p2), .val (.int p3), .val (.int p4), .val (.int p5), .val (.ref b1), .val (.int y1), .val (.int y3), .val (.int y5), .val (.int y5), .val (.ref b84), .val (.ref b88), .val (.int y10), .val (.ref b84), .val (.int (1 : Int32)), .unset] [(.ref b84), (.ref b84)])) _
              refine st139.trans ?_
              show Steps p.tables e below (T139.setTop (mkF m 206 #[.val (.int p1), .val (.int p2), .val (.int p3), .val (.int p4), .val (.int p5), .val (.ref b1), .val (.int y1), .val (.int y3), .val (.int y5), .val (.int y5), .val (.ref b84), .val (.ref b88), .val (.int y10), .val (.ref b84), .val (.int (1 : Int32)), .unset] [(.int (1 : Int32))])) _
              refine XS.istore X139.here hx rfl (hb hby at_206) rfl (l' := #[.val (.int p1), .val (.int p2), .val (.int p3), .val (.int p4), .val (.int p5), .val (.ref b1), .val (.int y1), .val (.int y3), .val (.int y5), .val (.int y5), .val (.ref b84), .val (.ref b88), .val (.int y10), .val (.ref b84), .val (.int (1 : Int32)), .val (.int (1 : Int32))]) rfl ?_
              refine XS.iload X139.here hx rfl (hb hby at_208) rfl ?_
              refine XS.iload X139.here hx rfl (hb hby at_210) rfl ?_
              show Steps p.tables e below (T139.setTop (mkF m 212 #[.val (.int p1), .val (.int p2), .val (.int p3), .val (.int p4), .val (.int p5), .val (.ref b1), .val (.int y1), .val (.int y3), .val (.int y5), .val (.int y5), .val (.ref b84), .val (.ref b88), .val (.int y10), .val (.ref b84), .val (.int (1 : Int32)), .val (.int (1 : Int32))] [(.int (1 : Int32)), (.int (1 : Int32))])) _
              refine XS.icmpYes X139.here hx rfl (pc0 := 212) (pc' := 217) rfl (hb hby at_212) rfl (teq (rfl : (1 : Int32) = (1 : Int32))).1 (by decide) (by decide) ?_
              show Steps p.tables e below (T139.setTop (mkF m 217 #[.val (.int p1), .val (.int p2), .val (.int p3), .val (.int p4), .val (.int p5), .val (.ref b1), .val (.int y1), .val (.int y3), .val (.int y5), .val (.int y5), .val (.ref b84), .val (.ref b88), .val (.int y10), .val (.ref b84), .val (.int (1 : Int32)), .val (.int (1 : Int32))] [])) _
              refine XS.iload X139.here hx rfl (hb hby at_217) rfl ?_
              show Steps p.tables e below (T139.setTop (mkF m 219 #[.val (.int p1), .val (.int p2), .val (.int p3), .val (.int p4), .val (.int p5), .val (.ref b1), .val (.int y1), .val (.int y3), .val (.int y5), .val (.int y5), .val (.ref b84), .val (.ref b88), .val (.int y10), .val (.ref b84), .val (.int (1 : Int32)), .val (.int (1 : Int32))] [(.int y10)])) _
              refine XS.ifYes X139.here hx rfl (pc0 := 219) (pc' := 240) rfl (hb hby at_219) rfl ((if0 _ _).trans (feq hf121).2) (by decide) (by decide) ?_
              show Steps p.tables e below (T139.setTop (mkF m 240 #[.val (.int p1), .val (.int p2), .val (.int p3), .val (.int p4), .val (.int p5), .val (.ref b1), .val (.int y1), .val (.int y3), .val (.int y5), .val (.int y5), .val (.ref b84), .val (.ref b88), .val (.int y10), .val (.ref b84), .val (.int (1 : Int32)), .val (.int (1 : Int32))] [])) _
              refine XS.iconst X139.here hx rfl (hb hby at_240) ?_
              show Steps p.tables e below (T139.setTop (mkF m 241 #[.val (.int p1), .val (.int p2), .val (.int p3), .val (.int p4), .val (.int p5), .val (.ref b1), .val (.int y1), .val (.int y3), .val (.int y5), .val (.int y5), .val (.ref b84), .val (.ref b88), .val (.int y10), .val (.ref b84), .val (.int (1 : Int32)), .val (.int (1 : Int32))] [(.int (1 : Int32))])) _
              exact retN X139 hx (t := .boolean) Bd.returns (by simp) (hb hby at_241) hr
  · obtain ⟨_, _, ⟨T143, L143, k143, n143⟩, -, X143, ⟨Lc143, hQ143, l143, y143, z143⟩, st143⟩ := Jvm.LawKit.callS X13 hx (y := (⟨"java/lang/Math", "max", "(II)I"⟩ : MethodName)) hown (mvT hZ (wd13 hw)) (mvT hZ (wd14 hw)) (mvT hZ (wd15 hw)) (mvT hZ (wd16 hw)) (by decide) (backOf (W := 0) (mg_own_imax l Z a0 hw [] (1 : Int32) y4 h13 n0 OL13 ) hZ (wd16 hw) (wd15 hw) (by decide) (by decide)) (g := (mkF m 58 #[.val (.int p1), .val (.int p2), .val (.int p3), .val (.int p4), .val (.int p5), .val (.ref b1), .val (.int y1), .val (.int y1), .unset, .unset, .unset, .unset, .unset, .unset, .unset, .unset] [(.int y4), (.int (1 : Int32))])) rfl (by rw [hml]; rfl) (argsL := [(.int (1 : Int32)), (.int y4)]) (rest := []) (lenOf pd_0 rfl) rfl (by show 2 * 0 + _ ≤ _; exact Nat.le_of_eq rfl) (hb hby at_58) (fun _ _ => ⟨rfl, e13, (by decide : 1 + 0 ≤ _), (by decide : 4 + 0 ≤ _)⟩)
    dsimp only [Pt.U, Pt.locs, Pt.cells, Pt.slots] at X143 l143 y143 z143 st143 hQ143
    subst l143 y143 z143
    obtain ⟨rfl, Nq143, ec143⟩ := hQ143
    have N143 := Fr.app N13 Nq143
    have pre144 : ∀ t, Steps p.tables e below (T143.setTop (mkF m 67 #[.val (.int p1), .val (.int p2), .val (.int p3), .val (.int p4), .val (.int p5), .val (.ref b1), .val (.int y1), .val (.int y1), .val (.int y5), .unset, .unset, .unset, .unset, .unset, .unset, .unset] [(.int y6)])) t → Steps p.tables e below (s₁.setTop (entryFrame m #[(.int p1), (.int p2), (.int p3), (.int p4), (.int p5)] maxLocals)) t := by
      intro t kt
      refine pre14 _ ?_
      show Steps p.tables e below (T13.setTop (mkF m 40 #[.val (.int p1), .val (.int p2), .val (.int p3), .val (.int p4), .val (.int p5), .val (.ref b1), .val (.int y1), .unset, .unset, .unset, .unset, .unset, .unset, .unset, .unset, .unset] [(.int y2)])) _
      refine XS.ifNo X13.here hx rfl (hb hby at_40) rfl ((if0 _ _).trans (feq hf14).1) ?_
      show Steps p.tables e below (T13.setTop (mkF m 43 #[.val (.int p1), .val (.int p2), .val (.int p3), .val (.int p4), .val (.int p5), .val (.ref b1), .val (.int y1), .unset, .unset, .unset, .unset, .unset, .unset, .unset, .unset, .unset] [])) _
      refine XS.iload X13.here hx rfl (hb hby at_43) rfl ?_
      refine XS.goto X13.here hx rfl (pc0 := 45) (pc' := 51) rfl (hb hby at_45) (by decide) (by decide) ?_
      refine XS.istore X13.here hx rfl (hb hby at_51) rfl (l' := #[.val (.int p1), .val (.int p2), .val (.int p3), .val (.int p4), .val (.int p5), .val (.ref b1), .val (.int y1), .val (.int y1), .unset, .unset, .unset, .unset, .unset, .unset, .unset, .unset]) rfl ?_
      refine XS.iconst X13.here hx rfl (hb hby at_53) ?_
      show Steps p.tables e below (T13.setTop (mkF m 54 #[.val (.int p1), .val (.int p2), .val (.int p3), .val (.int p4), .val (.int p5), .val (.ref b1), .val (.int y1), .val (.int y1), .unset, .unset, .unset, .unset, .unset, .unset, .unset, .unset] [(.int (1 : Int32))])) _
      refine XS.iloadN X13.here hx rfl (hb hby at_54) rfl ?_
      refine X13.ldcInt hx hown (mvT hZ (wd12 hw)) (g := (mkF m 55 #[.val (.int p1), .val (.int p2), .val (.int p3), .val (.int p4), .val (.int p5), .val (.ref b1), .val (.int y1), .val (.int y1), .unset, .unset, .unset, .unset, .unset, .unset, .unset, .unset] [(.int p2), (.int (1 : Int32))])) rfl (hb hby at_55) _ ?_
      show Steps p.tables e below (T13.setTop (mkF m 57 #[.val (.int p1), .val (.int p2), .val (.int p3), .val (.int p4), .val (.int p5), .val (.ref b1), .val (.int y1), .val (.int y1), .unset, .unset, .unset, .unset, .unset, .unset, .unset, .unset] [(.int (2147483647 : Int32)), (.int p2), (.int (1 : Int32))])) _
      refine XS.iand X13.here hx rfl (hb hby at_57) rfl ?_
      show Steps p.tables e below (T13.setTop (mkF m 58 #[.val (.int p1), .val (.int p2), .val (.int p3), .val (.int p4), .val (.int p5), .val (.ref b1), .val (.int y1), .val (.int y1), .unset, .unset, .unset, .unset, .unset, .unset, .unset, .unset] [(.int (p2 &&& (2147483647 : Int32))), (.int (1 : Int32))])) _
      rw [pr12]
      show Steps p.tables e below (T13.setTop (mkF m 58 #[.val (.int p1), .val (.int p2), .val (.int p3), .val (.int p4), .val (.int p5), .val (.ref b1), .val (.int y1), .val (.int y1), .unset, .unset, .unset, .unset, .unset, .unset, .unset, .unset] [(.int y4), (.int (1 : Int32))])) _
      refine st143 _ ?_
      show Steps p.tables e below (T143.setTop (mkF m 61 #[.val (.int p1), .val (.int p2), .val (.int p3), .val (.int p4), .val (.int p5), .val (.ref b1), .val (.int y1), .val (.int y1), .unset, .unset, .unset, .unset, .unset, .unset, .unset, .unset] [(.int (own_imax (1 : Int32) y4))])) _
      rw [pr13]
      show Steps p.tables e below (T143.setTop (mkF m 61 #[.val (.int p1), .val (.int p2), .val (.int p3), .val (.int p4), .val (.int p5), .val (.ref b1), .val (.int y1), .val (.int y1), .unset, .unset, .unset, .unset, .unset, .unset, .unset, .unset] [(.int y5)])) _
      refine XS.istore X143.here hx rfl (hb hby at_61) rfl (l' := #[.val (.int p1), .val (.int p2), .val (.int p3), .val (.int p4), .val (.int p5), .val (.ref b1), .val (.int y1), .val (.int y1), .val (.int y5), .unset, .unset, .unset, .unset, .unset, .unset, .unset]) rfl ?_
      refine XS.iload X143.here hx rfl (hb hby at_63) rfl ?_
      refine XS.iconst X143.here hx rfl (hb hby at_65) ?_
      show Steps p.tables e below (T143.setTop (mkF m 66 #[.val (.int p1), .val (.int p2), .val (.int p3), .val (.int p4), .val (.int p5), .val (.ref b1), .val (.int y1), .val (.int y1), .val (.int y5), .unset, .unset, .unset, .unset, .unset, .unset, .unset] [(.int (1 : Int32)), (.int p5)])) _
      refine XS.iand X143.here hx rfl (hb hby at_66) rfl ?_
      show Steps p.tables e below (T143.setTop (mkF m 67 #[.val (.int p1), .val (.int p2), .val (.int p3), .val (.int p4), .val (.int p5), .val (.ref b1), .val (.int y1), .val (.int y1), .val (.int y5), .unset, .unset, .unset, .unset, .unset, .unset, .unset] [(.int (p5 &&& (1 : Int32)))])) _
      rw [pr14]
      exact kt
    by_cases hf144 : y6 = (0 : Int32)
    · obtain ⟨_, _, ⟨T145, L145, k145, n145⟩, -, X145, ⟨Lc145, hQ145, l145, y145, z145⟩, st145⟩ := Jvm.LawKit.callS X143 hx (y := (⟨"java/lang/Math", "max", "(II)I"⟩ : MethodName)) hown (mvT hZ (wd13 hw)) (mvT hZ (wd14 hw)) (mvT hZ (wd15 hw)) (mvT hZ (wd16 hw)) (by decide) (backOf (W := 0) (mg_own_imax l Z a0 hw [] (1 : Int32) y7 h13 n0 OL13 ) hZ (wd16 hw) (wd15 hw) (by decide) (by decide)) (g := (mkF m 80 #[.val (.int p1), .val (.int p2), .val (.int p3), .val (.int p4), .val (.int p5), .val (.ref b1), .val (.int y1), .val (.int y1), .val (.int y5), .unset, .unset, .unset, .unset, .unset, .unset, .unset] [(.int y7), (.int (1 : Int32))])) rfl (by rw [hml]; rfl) (argsL := [(.int (1 : Int32)), (.int y7)]) (rest := []) (lenOf pd_0 rfl) rfl (by show 2 * 0 + _ ≤ _; exact Nat.le_of_eq rfl) (hb hby at_80) (fun _ _ => ⟨rfl, ec143, (by decide : 1 + 0 ≤ _), (by decide : 4 + 0 ≤ _)⟩)
      dsimp only [Pt.U, Pt.locs, Pt.cells, Pt.slots] at X145 l145 y145 z145 st145 hQ145
      subst l145 y145 z145
      obtain ⟨rfl, Nq145, ec145⟩ := hQ145
      have N145 := Fr.app N143 Nq145
      obtain ⟨T146, h146, X146, e146, E146, A146, D146, -, st146⟩ := newO X145 hx hZ hown (wd17 hw) (wd18 hw) (wd19 hw) ec145 (g := (mkF m 85 #[.val (.int p1), .val (.int p2), .val (.int p3), .val (.int p4), .val (.int p5), .val (.ref b1), .val (.int y1), .val (.int y1), .val (.int y5), .val (.int y8), .unset, .unset, .unset, .unset, .unset, .unset] [])) rfl (hb hby at_85) (by decide) (by decide)
      obtain ⟨b146, g146⟩ : ∃ z, z = h13.size := ⟨_, rfl⟩
      rw [← g146] at A146 D146 st146
      have g_b146 : n0 ≤ b146 := (Nat.le_trans (Nat.le_trans (Nat.le_of_eq OL13.1.symm) OL13.2.1) (Nat.le_of_eq g146.symm))
      have sz_b146 : h0.size ≤ b146 := (Nat.le_trans KK13.1 (Nat.le_of_eq g146.symm))
      have KK146 : Keep h0 h146 [] := KK13.ext E146
      have OL146 := OL13.ext E146
      have F_unit_b146 : Fld Z h146 b146 "com/example/larch/larch/model/Interval" "unit" "Lcom/example/larch/larch/model/IntervalUnit;" .null := D146 (Or.inr (wd39 hw)) (ty := (.object "com/example/larch/larch/model/IntervalUnit")) (by decide)
      have F_length_b146 : Fld Z h146 b146 "com/example/larch/larch/model/Interval" "length" "I" (.int (0 : Int32)) := D146 (Or.inr (wd41 hw)) (ty := .int) (by decide)
      have fc147 := (V13.ext E146)
      obtain ⟨cl148, Ar148, -, S148, -, Hs148, -⟩ := id fc147
      have hin148 : ¬ (y1 < 0 ∨ cl148.slots.size ≤ (y1).toNatClampNeg) := inb_of S148 ⟨pr17, pr18⟩
      have hat148 : cl148.slots[(y1).toNatClampNeg]? = some (.ref v1) := Hs148.at hin148 pr19
      obtain ⟨_, _, ⟨T149, L149, k149, n149⟩, -, Xa149, hSi149, hgr149, ⟨Lc149, hQ149, l149, y149, z149⟩, st149⟩ := X146.specialBackS hx (y := (⟨"com/example/larch/larch/model/Interval", "<init>", "(Lcom/example/larch/larch/model/IntervalUnit;I)V"⟩ : MethodName)) rfl hown (mvT hZ (wd20 hw)) (mvT hZ (wd21 hw)) (mvT hZ (wd22 hw)) (by decide) (backOfS (W := 1) (rm2_0 l Z a0 hw [] b146 v1 y5 h146 n0 OL146 pr20 A146 F_unit_b146 g_b146 F_length_b146) hZ (wd22 hw) (wd19 hw) (by decide) (by decide)) (g := (mkF m 96 #[.val (.int p1), .val (.int p2), .val (.int p3), .val (.int p4), .val (.int p5), .val (.ref b1), .val (.int y1), .val (.int y1), .val (.int y5), .val (.int y8), .unset, .unset, .unset, .unset, .unset, .unset] [(.int y5), (.ref v1), (.ref b146), (.ref b146)])) rfl (by rw [hml]; rfl) (Steps.refl _) (a := b146) (argsL := [(.ref v1), (.int y5)]) (rest := [(.ref b146)]) (lenOf pd_2 rfl) rfl (by show 2 * 0 + _ ≤ _; exact Nat.le_of_eq rfl) (hb hby at_96) (fun _ _ => ⟨rfl, e146, (by decide : 2 + 2 ≤ _), (by decide : 6 + 20 ≤ _)⟩)
      dsimp only [Pt.U, Pt.locs, Pt.cells, Pt.slots] at Xa149 l149 y149 z149 st149 hQ149 hSi149 hgr149
      subst l149 y149 z149
      obtain ⟨X149, hS149, hZ149, hown149⟩ := rebS (s := s) (vm0 := s.vm) ((State.WarmedH.refl s).since 0) (n1 := T146.heap.size) (by rw [e146]; exact (Nat.le_trans (Nat.le_trans (Nat.le_trans (Nat.le_trans (Nat.le_trans (Nat.le_trans (Nat.zero_le _) E1.1) (Nat.le_of_eq W4.size.symm)) (Nat.le_of_eq W7.size.symm)) (Nat.le_of_eq W10.size.symm)) (Nat.le_of_eq W13.size.symm)) E146.1)) Xa149 hSi149 hgr149 hZ hown
      obtain ⟨rfl, Nq149, K149, u149_0, u149_1⟩ := hQ149
      have KK149 : Keep h0 T149.heap [] := KK146.trans K149 (allS (Or.inr sz_b146) all0)
      have OL149 := OL146.keep K149 (allS g_b146 all0)
      have N149 := Fr.app N145 Nq149
      obtain ⟨T150, h150, X150, e150, E150, A150, D150, -, st150⟩ := newO X149 hx hZ149 hown149 (wd17 hw) (wd18 hw) (wd19 hw) rfl (g := (mkF m 101 #[.val (.int p1), .val (.int p2), .val (.int p3), .val (.int p4), .val (.int p5), .val (.ref b1), .val (.int y1), .val (.int y1), .val (.int y5), .val (.int y8), .val (.ref b146), .unset, .unset, .unset, .unset, .unset] [])) rfl (hb hby at_101) (by decide) (by decide)
      obtain ⟨b150, g150⟩ : ∃ z, z = T149.heap.size := ⟨_, rfl⟩
      rw [← g150] at A150 D150 st150
      have g_b150 : n0 ≤ b150 := (Nat.le_trans (Nat.le_trans (Nat.le_of_eq OL149.1.symm) OL149.2.1) (Nat.le_of_eq g150.symm))
      have sz_b150 : h0.size ≤ b150 := (Nat.le_trans KK149.1 (Nat.le_of_eq g150.symm))
      have KK150 : Keep h0 h150 [] := KK149.ext E150
      have OL150 := OL149.ext E150
      have F_unit_b150 : Fld Z h150 b150 "com/example/larch/larch/model/Interval" "unit" "Lcom/example/larch/larch/model/IntervalUnit;" .null := D150 (Or.inr (wd39 hw)) (ty := (.object "com/example/larch/larch/model/IntervalUnit")) (by decide)
      have F_length_b150 : Fld Z h150 b150 "com/example/larch/larch/model/Interval" "length" "I" (.int (0 : Int32)) := D150 (Or.inr (wd41 hw)) (ty := .int) (by decide)
      have fc151 := ((fc147.keep K149 (ninS (Nat.ne_of_lt (Nat.lt_of_lt_of_le V13.lt (Nat.le_of_eq g146.symm))) nin0)).ext E150)
      obtain ⟨cl152, Ar152, -, S152, -, Hs152, -⟩ := id fc151
      have hin152 : ¬ (y1 < 0 ∨ cl152.slots.size ≤ (y1).toNatClampNeg) := inb_of S152 ⟨pr17, pr18⟩
      have hat152 : cl152.slots[(y1).toNatClampNeg]? = some (.ref v1) := Hs152.at hin152 pr19
      obtain ⟨_, _, ⟨T153, L153, k153, n153⟩, -, Xa153, hSi153, hgr153, ⟨Lc153, hQ153, l153, y153, z153⟩, st153⟩ := X150.specialBackS hx (y := (⟨"com/example/larch/larch/model/Interval", "<init>", "(Lcom/example/larch/larch/model/IntervalUnit;I)V"⟩ : MethodName)) rfl hown149 (mvT hZ149 (wd20 hw)) (mvT hZ149 (wd21 hw)) (mvT hZ149 (wd22 hw)) (by decide) (backOfS (W := 1) (rm2_0 l Z a0 hw [] b150 v1 y8 h150 n0 OL150 pr23 A150 F_unit_b150 g_b150 F_length_b150) hZ149 (wd22 hw) (wd19 hw) (by decide) (by decide)) (g := (mkF m 112 #[.val (.int p1), .val (.int p2), .val (.int p3), .val (.int p4), .val (.int p5), .val (.ref b1), .val (.int y1), .val (.int y1), .val (.int y5), .val (.int y8), .val (.ref b146), .unset, .unset, .unset, .unset, .unset] [(.int y8), (.ref v1), (.ref b150), (.ref b150)])) rfl (by rw [hml]; rfl) (Steps.refl _) (a := b150) (argsL := [(.ref v1), (.int y8)]) (rest := [(.ref b150)]) (lenOf pd_2 rfl) rfl (by show 2 * 0 + _ ≤ _; exact Nat.le_of_eq rfl) (hb hby at_112) (fun _ _ => ⟨rfl, e150, (by decide : 5 + 2 ≤ _), (by decide : 28 + 20 ≤ _)⟩)
      dsimp only [Pt.U, Pt.locs, Pt.cells, Pt.slots] at Xa153 l153 y153 z153 st153 hQ153 hSi153 hgr153
      subst l153 y153 z153
      obtain ⟨X153, hS153, hZ153, hown153⟩ := rebS (s := s) (vm0 := T149.vm) hS149 (n1 := T150.heap.size) (by rw [e150]; exact (Nat.le_trans (Nat.le_refl _) E150.1)) Xa153 hSi153 hgr153 hZ149 hown149
      obtain ⟨rfl, Nq153, K153, u153_0, u153_1⟩ := hQ153
      have KK153 : Keep h0 T153.heap [] := KK150.trans K153 (allS (Or.inr sz_b150) all0)
      have OL153 := OL150.keep K153 (allS g_b150 all0)
      have N153 := Fr.app N149 Nq153
      have pre154 : ∀ t, Steps p.tables e below (T153.setTop (mkF m 127 #[.val (.int p1), .val (.int p2), .val (.int p3), .val (.int p4), .val (.int p5), .val (.ref b1), .val (.int y1), .val (.int y1), .val (.int y5), .val (.int y8), .val (.ref b146), .val (.ref b150), .val (.int y10), .unset, .unset, .unset] [(.int y10)])) t → Steps p.tables e below (s₁.setTop (entryFrame m #[(.int p1), (.int p2), (.int p3), (.int p4), (.int p5)] maxLocals)) t := by
        intro t kt
        refine pre144 _ ?_
        show Steps p.tables e below (T143.setTop (mkF m 67 #[.val (.int p1), .val (.int p2), .val (.int p3), .val (.int p4), .val (.int p5), .val (.ref b1), .val (.int y1), .val (.int y1), .val (.int y5), .unset, .unset, .unset, .unset, .unset, .unset, .unset] [(.int y6)])) _
        refine XS.ifYes X143.here hx rfl (pc0 := 67) (pc' := 75) rfl (hb hby at_67) rfl ((if0 _ _).trans (teq hf144).1) (by decide) (by decide) ?_
        show Steps p.tables e below (T143.setTop (mkF m 75 #[.val (.int p1), .val (.int p2), .val (.int p3), .val (.int p4), .val (.int p5), .val (.ref b1), .val (.int y1), .val (.int y1), .val (.int y5), .unset, .unset, .unset, .unset, .unset, .unset, .unset] [])) _
        refine XS.iconst X143.here hx rfl (hb hby at_75) ?_
        refine XS.iloadN X143.here hx rfl (hb hby at_76) rfl ?_
        refine X143.ldcInt hx hown (mvT hZ (wd12 hw)) (g := (mkF m 77 #[.val (.int p1), .val (.int p2), .val (.int p3), .val (.int p4), .val (.int p5), .val (.ref b1), .val (.int y1), .val (.int y1), .val (.int y5), .unset, .unset, .unset, .unset, .unset, .unset, .unset] [(.int p4), (.int (1 : Int32))])) rfl (hb hby at_77) _ ?_
        show Steps p.tables e below (T143.setTop (mkF m 79 #[.val (.int p1), .val (.int p2), .val (.int p3), .val (.int p4), .val (.int p5), .val (.ref b1), .val (.int y1), .val (.int y1), .val (.int y5), .unset, .unset, .unset, .unset, .unset, .unset, .unset] [(.int (2147483647 : Int32)), (.int p4), (.int (1 : Int32))])) _
        refine XS.iand X143.here hx rfl (hb hby at_79) rfl ?_
        show Steps p.tables e below (T143.setTop (mkF m 80 #[.val (.int p1), .val (.int p2), .val (.int p3), .val (.int p4), .val (.int p5), .val (.ref b1), .val (.int y1), .val (.int y1), .val (.int y5), .unset, .unset, .unset, .unset, .unset, .unset, .unset] [(.int (p4 &&& (2147483647 : Int32))), (.int (1 : Int32))])) _
        rw [pr15]
        show Steps p.tables e below (T143.setTop (mkF m 80 #[.val (.int p1), .val (.int p2), .val (.int p3), .val (.int p4), .val (.int p5), .val (.ref b1), .val (.int y1), .val (.int y1), .val (.int y5), .unset, .unset, .unset, .unset, .unset, .unset, .unset] [(.int y7), (.int (1 : Int32))])) _
        refine st145 _ ?_
        show Steps p.tables e below (T145.setTop (mkF m 83 #[.val (.int p1), .val (.int p2), .val (.int p3), .val (.int p4), .val (.int p5), .val (.ref b1), .val (.int y1), .val (.int y1), .val (.int y5), .unset, .unset, .unset, .unset, .unset, .unset, .unset] [(.int (own_imax (1 : Int32) y7))])) _
        rw [pr16]
        show Steps p.tables e below (T145.setTop (mkF m 83 #[.val (.int p1), .val (.int p2), .val (.int p3), .val (.int p4), .val (.int p5), .val (.ref b1), .val (.int y1), .val (.int y1), .val (.int y5), .unset, .unset, .unset, .unset, .unset, .unset, .unset] [(.int y8)])) _
        refine XS.istore X145.here hx rfl (hb hby at_83) rfl (l' := #[.val (.int p1), .val (.int p2), .val (.int p3), .val (.int p4), .val (.int p5), .val (.ref b1), .val (.int y1), .val (.int y1), .val (.int y5), .val (.int y8), .unset, .unset, .unset, .unset, .unset, .unset]) rfl ?_
        show Steps p.tables e below (T145.setTop (mkF m 85 #[.val (.int p1), .val (.int p2), .val (.int p3), .val (.int p4), .val (.int p5), .val (.ref b1), .val (.int y1), .val (.int y1), .val (.int y5), .val (.int y8), .unset, .unset, .unset, .unset, .unset, .unset] [])) _
        refine st146 _ ?_
        show Steps p.tables e below (T146.setTop (mkF m 88 #[.val (.int p1), .val (.int p2), .val (.int p3), .val (.int p4), .val (.int p5), .val (.ref b1), .val (.int y1), .val (.int y1), .val (.int y5), .val (.int y8), .unset, .unset, .unset, .unset, .unset, .unset] [(.ref b146)])) _
        refine XS.dup X146.here hx rfl (hb hby at_88) rfl rfl ?_
        refine XS.aload X146.here hx rfl (hb hby at_89) rfl rfl ?_
        refine XS.iload X146.here hx rfl (hb hby at_91) rfl ?_
        show Steps p.tables e below (T146.setTop (mkF m 93 #[.val (.int p1), .val (.int p2), .val (.int p3), .val (.int p4), .val (.int p5), .val (.ref b1), .val (.int y1), .val (.int y1), .val (.int y5), .val (.int y8), .unset, .unset, .unset, .unset, .unset, .unset] [(.int y1), (.ref b1), (.ref b146), (.ref b146)])) _
        refine X146.aaload hx (j := y1) (v := (.ref v1)) (by rw [e146]; exact Ar148.1) (State.isArrayOf_alike hZ.alike Ar148.2.1) rfl Ar148.2.2 hin148 hat148 (g := (mkF m 93 #[.val (.int p1), .val (.int p2), .val (.int p3), .val (.int p4), .val (.int p5), .val (.ref b1), .val (.int y1), .val (.int y1), .val (.int y5), .val (.int y8), .unset, .unset, .unset, .unset, .unset, .unset] [(.int y1), (.ref b1), (.ref b146), (.ref b146)])) rfl rfl (hb hby at_93) _ ?_
        show Steps p.tables e below (T146.setTop (mkF m 94 #[.val (.int p1), .val (.int p2), .val (.int p3), .val (.int p4), .val (.int p5), .val (.ref b1), .val (.int y1), .val (.int y1), .val (.int y5), .val (.int y8), .unset, .unset, .unset, .unset, .unset, .unset] [(.ref v1), (.ref b146), (.ref b146)])) _
        refine XS.iload X146.here hx rfl (hb hby at_94) rfl ?_
        show Steps p.tables e below (T146.setTop (mkF m 96 #[.val (.int p1), .val (.int p2), .val (.int p3), .val (.int p4), .val (.int p5), .val (.ref b1), .val (.int y1), .val (.int y1), .val (.int y5), .val (.int y8), .unset, .unset, .unset, .unset, .unset, .unset] [(.int y5), (.ref v1), (.ref b146), (.ref b146)])) _
        refine st149.trans ?_
        show Steps p.tables e below (T149.setTop (mkF m 99 #[.val (.int p1), .val (.int p2), .val (.int p3), .val (.int p4), .val (.int p5), .val (.ref b1), .val (.int y1), .val (.int y1), .val (.int y5), .val (.int y8), .unset, .unset, .unset, .unset, .unset, .unset] [(.ref b146)])) _
        refine XS.astore X149.here hx rfl (hb hby at_99) rfl rfl (l' := #[.val (.int p1), .val (.int p2), .val (.int p3), .val (.int p4), .val (.int p5), .val (.ref b1), .val (.int y1), .val (.int y1), .val (.int y5), .val (.int y8), .val (.ref b146), .unset, .unset, .unset, .unset, .unset]) rfl ?_
        show Steps p.tables e below (T149.setTop (mkF m 101 #[.val (.int p1), .val (.int p2), .val (.int p3), .val (.int p4), .val (.int p5), .val (.ref b1), .val (.int y1), .val (.int y1), .val (.int y5), .val (.int y8), .val (.ref b146), .unset, .unset, .unset, .unset, .unset] [])) _
        refine st150 _ ?_
        show Steps p.tables e below (T150.setTop (mkF m 104 #[.val (.int p1), .val (.int p2), .val (.int p3), .val (.int p4), .val (.int p5), .val (.ref b1), .val (.int y1), .val (.int y1), .val (.int y5), .val (.int y8), .val (.ref b146), .unset, .unset, .unset, .unset, .unset] [(.ref b150)])) _
        refine XS.dup X150.here hx rfl (hb hby at_104) rfl rfl ?_
        refine XS.aload X150.here hx rfl (hb hby at_105) rfl rfl ?_
        refine XS.iload X150.here hx rfl (hb hby at_107) rfl ?_
        show Steps p.tables e below (T150.setTop (mkF m 109 #[.val (.int p1), .val (.int p2), .val (.int p3), .val (.int p4), .val (.int p5), .val (.ref b1), .val (.int y1), .val (.int y1), .val (.int y5), .val (.int y8), .val (.ref b146), .unset, .unset, .unset, .unset, .unset] [(.int y1), (.ref b1), (.ref b150), (.ref b150)])) _
        refine X150.aaload hx (j := y1) (v := (.ref v1)) (by rw [e150]; exact Ar152.1) (State.isArrayOf_alike hZ149.alike Ar152.2.1) rfl Ar152.2.2 hin152 hat152 (g := (mkF m 109 #[.val (.int p1), .val (.int p2), .val (.int p3), .val (.int p4), .val (.int p5), .val (.ref b1), .val (.int y1), .val (.int y1), .val (.int y5), .val (.int y8), .val (.ref b146), .unset, .unset, .unset, .unset, .unset] [(.int y1), (.ref b1), (.ref b150), (.ref b150)])) rfl rfl (hb hby at_109) _ ?_
        show Steps p.tables e below (T150.setTop (mkF m 110 #[.val (.int p1), .val (.int p2), .val (.int p3), .val (.int p4), .val (.int p5), .val (.ref b1), .val (.int y1), .val (.int y1), .val (.int y5), .val (.int y8), .val (.ref b146), .unset, .unset, .unset, .unset, .unset] [(.ref v1), (.ref b150), (.ref b150)])) _
        refine XS.iload X150.here hx rfl (hb hby at_110) rfl ?_
        show Steps p.tables e below (T150.setTop (mkF m 112 #[.val (.int p1), .val (.int p2), .val (.int p3), .val (.int p4), .val (.int p5), .val (.ref b1), .val (.int y1), .val (.int y1), .val (.int y5), .val (.int y8), .val (.ref b146), .unset, .unset, .unset, .unset, .unset] [(.int y8), (.ref v1), (.ref b150), (.ref b150)])) _
        refine st153.trans ?_
        show Steps p.tables e below (T153.setTop (mkF m 115 #[.val (.int p1), .val (.int p2), .val (.int p3), .val (.int p4), .val (.int p5), .val (.ref b1), .val (.int y1), .val (.int y1), .val (.int y5), .val (.int y8), .val (.ref b146), .unset, .unset, .unset, .unset, .unset] [(.ref b150)])) _
        refine XS.astore X153.here hx rfl (hb hby at_115) rfl rfl (l' := #[.val (.int p1), .val (.int p2), .val (.int p3), .val (.int p4), .val (.int p5), .val (.ref b1), .val (.int y1), .val (.int y1), .val (.int y5), .val (.int y8), .val (.ref b146), .val (.ref b150), .unset, .unset, .unset, .unset]) rfl ?_
        refine XS.iload X153.here hx rfl (hb hby at_117) rfl ?_
        refine XS.iconst X153.here hx rfl (hb hby at_119) ?_
        show Steps p.tables e below (T153.setTop (mkF m 120 #[.val (.int p1), .val (.int p2), .val (.int p3), .val (.int p4), .val (.int p5), .val (.ref b1), .val (.int y1), .val (.int y1), .val (.int y5), .val (.int y8), .val (.ref b146), .val (.ref b150), .unset, .unset, .unset, .unset] [(.int (1 : Int32)), (.int p5)])) _
        refine XS.iushr X153.here hx rfl (hb hby at_120) rfl ?_
        show Steps p.tables e below (T153.setTop (mkF m 121 #[.val (.int p1), .val (.int p2), .val (.int p3), .val (.int p4), .val (.int p5), .val (.ref b1), .val (.int y1), .val (.int y1), .val (.int y5), .val (.int y8), .val (.ref b146), .val (.ref b150), .unset, .unset, .unset, .unset] [(.int ((p5.toUInt32 >>> ((1 : Int32) &&& 31).toUInt32).toInt32))])) _
        rw [pr24]
        show Steps p.tables e below (T153.setTop (mkF m 121 #[.val (.int p1), .val (.int p2), .val (.int p3), .val (.int p4), .val (.int p5), .val (.ref b1), .val (.int y1), .val (.int y1), .val (.int y5), .val (.int y8), .val (.ref b146), .val (.ref b150), .unset, .unset, .unset, .unset] [(.int y9)])) _
        refine XS.iconst X153.here hx rfl (hb hby at_121) ?_
        show Steps p.tables e below (T153.setTop (mkF m 122 #[.val (.int p1), .val (.int p2), .val (.int p3), .val (.int p4), .val (.int p5), .val (.ref b1), .val (.int y1), .val (.int y1), .val (.int y5), .val (.int y8), .val (.ref b146), .val (.ref b150), .unset, .unset, .unset, .unset] [(.int (3 : Int32)), (.int y9)])) _
        refine XS.iand X153.here hx rfl (hb hby at_122) rfl ?_
        show Steps p.tables e below (T153.setTop (mkF m 123 #[.val (.int p1), .val (.int p2), .val (.int p3), .val (.int p4), .val (.int p5), .val (.ref b1), .val (.int y1), .val (.int y1), .val (.int y5), .val (.int y8), .val (.ref b146), .val (.ref b150), .unset, .unset, .unset, .unset] [(.int (y9 &&& (3 : Int32)))])) _
        rw [pr25]
        show Steps p.tables e below (T153.setTop (mkF m 123 #[.val (.int p1), .val (.int p2), .val (.int p3), .val (.int p4), .val (.int p5), .val (.ref b1), .val (.int y1), .val (.int y1), .val (.int y5), .val (.int y8), .val (.ref b146), .val (.ref b150), .unset, .unset, .unset, .unset] [(.int y10)])) _
        refine XS.istore X153.here hx rfl (hb hby at_123) rfl (l' := #[.val (.int p1), .val (.int p2), .val (.int p3), .val (.int p4), .val (.int p5), .val (.ref b1), .val (.int y1), .val (.int y1), .val (.int y5), .val (.int y8), .val (.ref b146), .val (.ref b150), .val (.int y10), .unset, .unset, .unset]) rfl ?_
        refine XS.iload X153.here hx rfl (hb hby at_125) rfl ?_
        exact kt
      by_cases hf154 : y10 = (0 : Int32)
      · have pre155 : ∀ t, Steps p.tables e below (T153.setTop (mkF m 145 #[.val (.int p1), .val (.int p2), .val (.int p3), .val (.int p4), .val (.int p5), .val (.ref b1), .val (.int y1), .val (.int y1), .val (.int y5), .val (.int y8), .val (.ref b146), .val (.ref b150), .val (.int y10), .val (.ref b150), .unset, .unset] [(.int y8), (.int y5)])) t → Steps p.tables e below (s₁.setTop (entryFrame m #[(.int p1), (.int p2), (.int p3), (.int p4), (.int p5)] maxLocals)) t := by
          intro t kt
          refine pre154 _ ?_
          show Steps p.tables e below (T153.setTop (mkF m 127 #[.val (.int p1), .val (.int p2), .val (.int p3), .val (.int p4), .val (.int p5), .val (.ref b1), .val (.int y1), .val (.int y1), .val (.int y5), .val (.int y8), .val (.ref b146), .val (.ref b150), .val (.int y10), .unset, .unset, .unset] [(.int y10)])) _
          refine XS.ifNo X153.here hx rfl (hb hby at_127) rfl ((if0 _ _).trans (teq hf154).2) ?_
          show Steps p.tables e below (T153.setTop (mkF m 130 #[.val (.int p1), .val (.int p2), .val (.int p3), .val (.int p4), .val (.int p5), .val (.ref b1), .val (.int y1), .val (.int y1), .val (.int y5), .val (.int y8), .val (.ref b146), .val (.ref b150), .val (.int y10), .unset, .unset, .unset] [])) _
          refine XS.aload X153.here hx rfl (hb hby at_130) rfl rfl ?_
          refine XS.astore X153.here hx rfl (hb hby at_132) rfl rfl (l' := #[.val (.int p1), .val (.int p2), .val (.int p3), .val (.int p4), .val (.int p5), .val (.ref b1), .val (.int y1), .val (.int y1), .val (.int y5), .val (.int y8), .val (.ref b146), .val (.ref b150), .val (.int y10), .val (.ref b150), .unset, .unset]) rfl ?_
          refine XS.iload X153.here hx rfl (hb hby at_134) rfl ?_
          refine XS.iload X153.here hx rfl (hb hby at_136) rfl ?_
          show Steps p.tables e below (T153.setTop (mkF m 138 #[.val (.int p1), .val (.int p2), .val (.int p3), .val (.int p4), .val (.int p5), .val (.ref b1), .val (.int y1), .val (.int y1), .val (.int y5), .val (.int y8), .val (.ref b146), .val (.ref b150), .val (.int y10), .val (.ref b150), .unset, .unset] [(.int y1), (.int y1)])) _
          refine XS.icmpNo X153.here hx rfl (hb hby at_138) rfl (teq (rfl : y1 = y1)).2 ?_
          show Steps p.tables e below (T153.setTop (mkF m 141 #[.val (.int p1), .val (.int p2), .val (.int p3), .val (.int p4), .val (.int p5), .val (.ref b1), .val (.int y1), .val (.int y1), .val (.int y5), .val (.int y8), .val (.ref b146), .val (.ref b150), .val (.int y10), .val (.ref b150), .unset, .unset] [])) _
          refine XS.iload X153.here hx rfl (hb hby at_141) rfl ?_
          refine XS.iload X153.here hx rfl (hb hby at_143) rfl ?_
          exact kt
        by_cases hf155 : y5 = y8
        · have fc157 := (A150.keep K153)
          have fc158 := ((u149_0.ext E150).keep K153 (ninS (Nat.ne_of_lt (Nat.lt_of_lt_of_le u149_1.lt (Nat.le_of_eq g150.symm))) nin0))
          have fc159 := ((u149_1.ext E150).keep K153 (ninS (Nat.ne_of_lt (Nat.lt_of_lt_of_le u149_1.lt (Nat.le_of_eq g150.symm))) nin0))
          have fc160 := (((A146.keep K149).ext E150).keep K153)
          obtain ⟨cq156, kq156, q156a, q156b, q156c⟩ := isOf hZ153 rfl fc160
          obtain ⟨_, _, ⟨T156, L156, k156, n156⟩, -, X156, ⟨Lc156, hQ156, l156, y156, z156⟩, st156⟩ := X153.virtualBack hx (y := (⟨"com/example/larch/larch/model/Interval", "equals", "(Ljava/lang/Object;)Z"⟩ : MethodName)) (z := (⟨"com/example/larch/larch/model/Interval", "equals", "(Ljava/lang/Object;)Z"⟩ : MethodName)) hown153 (mvT hZ153 (wd42 hw)) (mvT hZ153 (wd43 hw)) (notFace_of_selects (args := #[]) (mvT hZ153 (wd45 hw))) (mvT hZ153 (wd45 hw)) (mvT hZ153 (wd44 hw)) (by decide) (backOf (W := 0) (rm5_0 l Z a0 hw [] b146 b150 v1 y5 y8 T153.heap n0 OL153 fc157 fc158 u153_0 fc159 u153_1 hf155) hZ153 (wd46 hw) (wd19 hw) (by decide) (by decide)) q156a q156c (g := (mkF m 203 #[.val (.int p1), .val (.int p2), .val (.int p3), .val (.int p4), .val (.int p5), .val (.ref b1), .val (.int y1), .val (.int y1), .val (.int y5), .val (.int y8), .val (.ref b146), .val (.ref b150), .val (.int y10), .val (.ref b150), .val (.int (1 : Int32)), .unset] [(.ref b150), (.ref b146)])) rfl (by rw [hml]; rfl) (Steps.refl _) (argsL := [(.ref b150)]) (rest := []) (lenOf pd_3 rfl) rfl (by show 2 * 0 + _ ≤ _; exact Nat.le_of_eq rfl) (hb hby at_203) (fun _ _ => ⟨rfl, rfl, (by decide : 7 + 0 ≤ _), (by decide : 48 + 0 ≤ _)⟩)
          dsimp only [Pt.U, Pt.locs, Pt.cells, Pt.slots] at X156 l156 y156 z156 st156 hQ156
          subst l156 y156 z156
          obtain ⟨rfl, Nq156, ec156⟩ := hQ156
          have N156 := Fr.app N153 Nq156
          obtain ⟨cq161, kq161, q161a, q161b, q161c⟩ := isOf hZ153 ec156 fc157
          obtain ⟨_, _, ⟨T161, L161, k161, n161⟩, -, X161, ⟨Lc161, hQ161, l161, y161, z161⟩, st161⟩ := X156.virtualBack hx (y := (⟨"com/example/larch/larch/model/Interval", "equals", "(Ljava/lang/Object;)Z"⟩ : MethodName)) (z := (⟨"com/example/larch/larch/model/Interval", "equals", "(Ljava/lang/Object;)Z"⟩ : MethodName)) hown153 (mvT hZ153 (wd42 hw)) (mvT hZ153 (wd43 hw)) (notFace_of_selects (args := #[]) (mvT hZ153 (wd45 hw))) (mvT hZ153 (wd45 hw)) (mvT hZ153 (wd44 hw)) (by decide) (backOf (W := 0) (rm5_0 l Z a0 hw [] b150 b146 v1 y8 y5 T153.heap n0 OL153 fc160 u153_0 fc158 u153_1 fc159 (Eq.symm hf155)) hZ153 (wd46 hw) (wd19 hw) (by decide) (by decide)) q161a q161c (g := (mkF m 226 #[.val (.int p1), .val (.int p2), .val (.int p3), .val (.int p4), .val (.int p5), .val (.ref b1), .val (.int y1), .val (.int y1), .val (.int y5), .val (.int y8), .val (.ref b146), .val (.ref b150), .val (.int y10), .val (.ref b150), .val (.int (1 : Int32)), .val (.int (1 : Int32))] [(.ref b146), (.ref b150)])) rfl (by rw [hml]; rfl) (Steps.refl _) (argsL := [(.ref b146)]) (rest := []) (lenOf pd_3 rfl) rfl (by show 2 * 0 + _ ≤ _; exact Nat.le_of_eq rfl) (hb hby at_226) (fun _ _ => ⟨rfl, ec156, (by decide : 7 + 0 ≤ _), (by decide : 48 + 0 ≤ _)⟩)
          dsimp only [Pt.U, Pt.locs, Pt.cells, Pt.slots] at X161 l161 y161 z161 st161 hQ161
          subst l161 y161 z161
          obtain ⟨rfl, Nq161, ec161⟩ := hQ161
          have N161 := Fr.app N156 Nq161
          obtain ⟨fs, hr, hrun, hended, hRW⟩ := X161.leaveW (s := s) hS153 (by rw [ec161]; exact (Nat.le_refl _)) (v := some (.int (1 : Int32))) (fun h => by rw [Bd.returns] at h; cases h)
          refine ⟨_, _, pre155 _ ?_, hrun, hended, _, _, rfl, ⟨rfl, N161⟩, hRW.1, hRW.2.1, hRW.2.2.1, hRW.2.2.2.mono (by decide) (by decide)⟩
          show Steps p.tables e below (T153.setTop (mkF m 145 #[.val (.int p1), .val (.int p2), .val (.int p3), .val (.int p4), .val (.int p5), .val (.ref b1), .val (.int y1), .val (.int y1), .val (.int y5), .val (.int y8), .val (.ref b146), .val (.ref b150), .val (.int y10), .val (.ref b150), .unset, .unset] [(.int y8), (.int y5)])) _
          refine XS.icmpNo X153.here hx rfl (hb hby at_145) rfl (teq hf155).2 ?_
          show Steps p.tables e below (T153.setTop (mkF m 148 #[.val (.int p1), .val (.int p2), .val (.int p3), .val (.int p4), .val (.int p5), .val (.ref b1), .val (.int y1), .val (.int y1), .val (.int y5), .val (.int y8), .val (.ref b146), .val (.ref b150), .val (.int y10), .val (.ref b150), .unset, .unset] [])) _
          refine XS.iconst X153.here hx rfl (hb hby at_148) ?_
          refine XS.goto X153.here hx rfl (pc0 := 149) (pc' := 153) rfl (hb hby at_149) (by decide) (by decide) ?_
          refine XS.istore X153.here hx rfl (hb hby at_153) rfl (l' := #[.val (.int p1), .val (.int p2), .val (.int p3), .val (.int p4), .val (.int p5), .val (.ref b1), .val (.int y1), .val (.int y1), .val (.int y5), .val (.int y8), .val (.ref b146), .val (.ref b150), .val (.int y10), .val (.ref b150), .val (.int (1 : Int32)), .unset]) rfl ?_
          refine XS.goto X153.here hx rfl (pc0 := 155) (pc' := 199) rfl (hb hby at_155) (by decide) (by decide) ?_
          show Steps p.tables e below (T153.setTop (mkF m 199 #[.val (.int p1), .val (.int p2), .val (.int p3), .val (.int p4), .val (.int p5), .val (.ref b1), .val (.int y1), .val (.int y1), .val (.int y5), .val (.int y8), .val (.ref b146), .val (.ref b150), .val (.int y10), .val (.ref b150), .val (.int (1 : Int32)), .unset] [])) _
          refine XS.aload X153.here hx rfl (hb hby at_199) rfl rfl ?_
          refine XS.aload X153.here hx rfl (hb hby at_201) rfl rfl ?_
          show Steps p.tables e below (T153.setTop (mkF m 203 #[.val (.int p1), .val (.int p2), .val (.int p3), .val (.int p4), .val (.int p5), .val (.ref b1), .val (.int y1), .val (.int y1), .val (.int y5), .val (.int y8), .val (.ref b146), .val (.ref b150), .val (.int y10), .val (.ref b150), .val (.int (1 : Int32)), .unset] [(.ref b150), (.ref b146)])) _
          refine st156.trans ?_
          show Steps p.tables e below (T156.setTop (mkF m 206 #[.val (.int p1), .val (.int p2), .val (.int p3), .val (.int p4), .val (.int p5), .val (.ref b1), .val (.int y1), .val (.int y1), .val (.int y5), .val (.int y8), .val (.ref b146), .val (.ref b150), .val (.int y10), .val (.ref b150), .val (.int (1 : Int32)), .unset] [(.int (1 : Int32))])) _
          refine XS.istore X156.here hx rfl (hb hby at_206) rfl (l' := #[.val (.int p1), .val (.int p2), .val (.int p3), .val (.int p4), .val (.int p5), .val (.ref b1), .val (.int y1), .val (.int y1), .val (.int y5), .val (.int y8), .val (.ref b146), .val (.ref b150), .val (.int y10), .val (.ref b150), .val (.int (1 : Int32)), .val (.int (1 : Int32))]) rfl ?_
          refine XS.iload X156.here hx rfl (hb hby at_208) rfl ?_
          refine XS.iload X156.here hx rfl (hb hby at_210) rfl ?_
          show Steps p.tables e below (T156.setTop (mkF m 212 #[.val (.int p1), .val (.int p2), .val (.int p3), .val (.int p4), .val (.int p5), .val (.ref b1), .val (.int y1), .val (.int y1), .val (.int y5), .val (.int y8), .val (.ref b146), .val (.ref b150), .val (.int y10), .val (.ref b150), .val (.int (1 : Int32)), .val (.int (1 : Int32))] [(.int (1 : Int32)), (.int (1 : Int32))])) _
          refine XS.icmpYes X156.here hx rfl (pc0 := 212) (pc' := 217) rfl (hb hby at_212) rfl (teq (rfl : (1 : Int32) = (1 : Int32))).1 (by decide) (by decide) ?_
          show Steps p.tables e below (T156.setTop (mkF m 217 #[.val (.int p1), .val (.int p2), .val (.int p3), .val (.int p4), .val (.int p5), .val (.ref b1), .val (.int y1), .val (.int y1), .val (.int y5), .val (.int y8), .val (.ref b146), .val (.ref b150), .val (.int y10), .val (.ref b150), .val (.int (1 : Int32)), .val (.int (1 : Int32))] [])) _
          refine XS.iload X156.here hx rfl (hb hby at_217) rfl ?_
          show Steps p.tables e below (T156.setTop (mkF m 219 #[.val (.int p1), .val (.int p2), .val (.int p3), .val (.int p4), .val (.int p5), .val (.ref b1), .val (.int y1), .val (.int y1), .val (.int y5), .val (.int y8), .val (.ref b146), .val (.ref b150), .val (.int y10), .val (.ref b150), .val (.int (1 : Int32)), .val (.int (1 : Int32))] [(.int y10)])) _
          refine XS.ifNo X156.here hx rfl (hb hby at_219) rfl ((if0 _ _).trans (teq hf154).2) ?_
          show Steps p.tables e below (T156.setTop (mkF m 222 #[.val (.int p1), .val (.int p2), .val (.int p3), .val (.int p4), .val (.int p5), .val (.ref b1), .val (.int y1), .val (.int y1), .val (.int y5), .val (.int y8), .val (.ref b146), .val (.ref b150), .val (.int y10), .val (.ref b150), .val (.int (1 : Int32)), .val (.int (1 : Int32))] [])) _
          refine XS.aload X156.here hx rfl (hb hby at_222) rfl rfl ?_
          refine XS.aload X156.here hx rfl (hb hby at_224) rfl rfl ?_
          show Steps p.tables e below (T156.setTop (mkF m 226 #[.val (.int p1), .val (.int p2), .val (.int p3), .val (.int p4), .val (.int p5), .val (.ref b1), .val (.int y1), .val (.int y1), .val (.int y5), .val (.int y8), .val (.ref b146), .val (.ref b150), .val (.int y10), .val (.ref b150), .val (.int (1 : Int32)), .val (.int (1 : Int32))] [(.ref b146), (.ref b150)])) _
          refine st161.trans ?_
          show Steps p.tables e below (T161.setTop (mkF m 229 #[.val (.int p1), .val (.int p2), .val (.int p3), .val (.int p4), .val (.int p5), .val (.ref b1), .val (.int y1), .val (.int y1), .val (.int y5), .val (.int y8), .val (.ref b146), .val (.ref b150), .val (.int y10), .val (.ref b150), .val (.int (1 : Int32)), .val (.int (1 : Int32))] [(.int (1 : Int32))])) _
          refine XS.iload X161.here hx rfl (hb hby at_229) rfl ?_
          show Steps p.tables e below (T161.setTop (mkF m 231 #[.val (.int p1), .val (.int p2), .val (.int p3), .val (.int p4), .val (.int p5), .val (.ref b1), .val (.int y1), .val (.int y1), .val (.int y5), .val (.int y8), .val (.ref b146), .val (.ref b150), .val (.int y10), .val (.ref b150), .val (.int (1 : Int32)), .val (.int (1 : Int32))] [(.int (1 : Int32)), (.int (1 : Int32))])) _
          refine XS.icmpNo X161.here hx rfl (hb hby at_231) rfl (teq (rfl : (1 : Int32) = (1 : Int32))).2 ?_
          show Steps p.tables e below (T161.setTop (mkF m 234 #[.val (.int p1), .val (.int p2), .val (.int p3), .val (.int p4), .val (.int p5), .val (.ref b1), .val (.int y1), .val (.int y1), .val (.int y5), .val (.int y8), .val (.ref b146), .val (.ref b150), .val (.int y10), .val (.ref b150), .val (.int (1 : Int32)), .val (.int (1 : Int32))] [])) _
          refine XS.iconst X161.here hx rfl (hb hby at_234) ?_
          refine XS.goto X161.here hx rfl (pc0 := 235) (pc' := 239) rfl (hb hby at_235) (by decide) (by decide) ?_
          show Steps p.tables e below (T161.setTop (mkF m 239 #[.val (.int p1), .val (.int p2), .val (.int p3), .val (.int p4), .val (.int p5), .val (.ref b1), .val (.int y1), .val (.int y1), .val (.int y5), .val (.int y8), .val (.ref b146), .val (.ref b150), .val (.int y10), .val (.ref b150), .val (.int (1 : Int32)), .val (.int (1 : Int32))] [(.int (1 : Int32))])) _
          exact retN X161 hx (t := .boolean) Bd.returns (by simp) (hb hby at_239) hr
        · have fc163 := (A150.keep K153)
          have fc164 := ((u149_0.ext E150).keep K153 (ninS (Nat.ne_of_lt (Nat.lt_of_lt_of_le u149_1.lt (Nat.le_of_eq g150.symm))) nin0))
          have fc165 := ((u149_1.ext E150).keep K153 (ninS (Nat.ne_of_lt (Nat.lt_of_lt_of_le u149_1.lt (Nat.le_of_eq g150.symm))) nin0))
          have fc166 := (((A146.keep K149).ext E150).keep K153)
          obtain ⟨cq162, kq162, q162a, q162b, q162c⟩ := isOf hZ153 rfl fc166
          obtain ⟨_, _, ⟨T162, L162, k162, n162⟩, -, X162, ⟨Lc162, hQ162, l162, y162, z162⟩, st162⟩ := X153.virtualBack hx (y := (⟨"com/example/larch/larch/model/Interval", "equals", "(Ljava/lang/Object;)Z"⟩ : MethodName)) (z := (⟨"com/example/larch/larch/model/Interval", "equals", "(Ljava/lang/Object;)Z"⟩ : MethodName)) hown153 (mvT hZ153 (wd42 hw)) (mvT hZ153 (wd43 hw)) (notFace_of_selects (args := #[]) (mvT hZ153 (wd45 hw))) (mvT hZ153 (wd45 hw)) (mvT hZ153 (wd44 hw)) (by decide) (backOf (W := 0) (rm5_1 l Z a0 hw [] b146 b150 v1 y5 y8 T153.heap n0 OL153 fc163 fc164 u153_0 fc165 u153_1 hf155) hZ153 (wd46 hw) (wd19 hw) (by decide) (by decide)) q162a q162c (g := (mkF m 203 #[.val (.int p1), .val (.int p2), .val (.int p3), .val (.int p4), .val (.int p5), .val (.ref b1), .val (.int y1), .val (.int y1), .val (.int y5), .val (.int y8), .val (.ref b146), .val (.ref b150), .val (.int y10), .val (.ref b150), .val (.int (0 : Int32)), .unset] [(.ref b150), (.ref b146)])) rfl (by rw [hml]; rfl) (Steps.refl _) (argsL := [(.ref b150)]) (rest := []) (lenOf pd_3 rfl) rfl (by show 2 * 0 + _ ≤ _; exact Nat.le_of_eq rfl) (hb hby at_203) (fun _ _ => ⟨rfl, rfl, (by decide : 7 + 0 ≤ _), (by decide : 48 + 0 ≤ _)⟩)
          dsimp only [Pt.U, Pt.locs, Pt.cells, Pt.slots] at X162 l162 y162 z162 st162 hQ162
          subst l162 y162 z162
          obtain ⟨rfl, Nq162, ec162⟩ := hQ162
          have N162 := Fr.app N153 Nq162
          obtain ⟨cq167, kq167, q167a, q167b, q167c⟩ := isOf hZ153 ec162 fc163
          obtain ⟨_, _, ⟨T167, L167, k167, n167⟩, -, X167, ⟨Lc167, hQ167, l167, y167, z167⟩, st167⟩ := X162.virtualBack hx (y := (⟨"com/example/larch/larch/model/Interval", "equals", "(Ljava/lang/Object;)Z"⟩ : MethodName)) (z := (⟨"com/example/larch/larch/model/Interval", "equals", "(Ljava/lang/Object;)Z"⟩ : MethodName)) hown153 (mvT hZ153 (wd42 hw)) (mvT hZ153 (wd43 hw)) (notFace_of_selects (args := #[]) (mvT hZ153 (wd45 hw))) (mvT hZ153 (wd45 hw)) (mvT hZ153 (wd44 hw)) (by decide) (backOf (W := 0) (rm5_1 l Z a0 hw [] b150 b146 v1 y8 y5 T153.heap n0 OL153 fc166 u153_0 fc164 u153_1 fc165 (fun z => hf155 z.symm)) hZ153 (wd46 hw) (wd19 hw) (by decide) (by decide)) q167a q167c (g := (mkF m 226 #[.val (.int p1), .val (.int p2), .val (.int p3), .val (.int p4), .val (.int p5), .val (.ref b1), .val (.int y1), .val (.int y1), .val (.int y5), .val (.int y8), .val (.ref b146), .val (.ref b150), .val (.int y10), .val (.ref b150), .val (.int (0 : Int32)), .val (.int (0 : Int32))] [(.ref b146), (.ref b150)])) rfl (by rw [hml]; rfl) (Steps.refl _) (argsL := [(.ref b146)]) (rest := []) (lenOf pd_3 rfl) rfl (by show 2 * 0 + _ ≤ _; exact Nat.le_of_eq rfl) (hb hby at_226) (fun _ _ => ⟨rfl, ec162, (by decide : 7 + 0 ≤ _), (by decide : 48 + 0 ≤ _)⟩)
          dsimp only [Pt.U, Pt.locs, Pt.cells, Pt.slots] at X167 l167 y167 z167 st167 hQ167
          subst l167 y167 z167
          obtain ⟨rfl, Nq167, ec167⟩ := hQ167
          have N167 := Fr.app N162 Nq167
          obtain ⟨fs, hr, hrun, hended, hRW⟩ := X167.leaveW (s := s) hS153 (by rw [ec167]; exact (Nat.le_refl _)) (v := some (.int (1 : Int32))) (fun h => by rw [Bd.returns] at h; cases h)
          refine ⟨_, _, pre155 _ ?_, hrun, hended, _, _, rfl, ⟨rfl, N167⟩, hRW.1, hRW.2.1, hRW.2.2.1, hRW.2.2.2.mono (by decide) (by decide)⟩
          show Steps p.tables e below (T153.setTop (mkF m 145 #[.val (.int p1), .val (.int p2), .val (.int p3), .val (.int p4), .val (.int p5), .val (.ref b1), .val (.int y1), .val (.int y1), .val (.int y5), .val (.int y8), .val (.ref b146), .val (.ref b150), .val (.int y10), .val (.ref b150), .unset, .unset] [(.int y8), (.int y5)])) _
          refine XS.icmpYes X153.here hx rfl (pc0 := 145) (pc' := 152) rfl (hb hby at_145) rfl (feq hf155).2 (by decide) (by decide) ?_
          show Steps p.tables e below (T153.setTop (mkF m 152 #[.val (.int p1), .val (.int p2), .val (.int p3), .val (.int p4), .val (.int p5), .val (.ref b1), .val (.int y1), .val (.int y1), .val (.int y5), .val (.int y8), .val (.ref b146), .val (.ref b150), .val (.int y10), .val (.ref b150), .unset, .unset] [])) _
          refine XS.iconst X153.here hx rfl (hb hby at_152) ?_
          refine XS.istore X153.here hx rfl (hb hby at_153) rfl (l' := #[.val (.int p1), .val (.int p2), .val (.int p3), .val (.int p4), .val (.int p5), .val (.ref b1), .val (.int y1), .val (.int y1), .val (.int y5), .val (.int y8), .val (.ref b146), .val (.ref b150), .val (.int y10), .val (.ref b150), .val (.int (0 : Int32)), .unset]) rfl ?_
          refine XS.goto X153.here hx rfl (pc0 := 155) (pc' := 199) rfl (hb hby at_155) (by decide) (by decide) ?_
          refine XS.aload X153.here hx rfl (hb hby at_199) rfl rfl ?_
          show Steps p.tables e below (T153.setTop (mkF m 201 #[.val (.int p1), .val (.int p2), .val (.int p3), .val (.int p4), .val (.int p5), .val (.ref b1), .val (.int y1), .val (.int y1), .val (.int y5), .val (.int y8), .val (.ref b146), .val (.ref b150), .val (.int y10), .val (.ref b150), .val (.int (0 : Int32)), .unset] [(.ref b146)])) _
          refine XS.aload X153.here hx rfl (hb hby at_201) rfl rfl ?_
          show Steps p.tables e below (T153.setTop (mkF m 203 #[.val (.int p1), .val (.int p2), .val (.int p3), .val (.int p4), .val (.int p5), .val (.ref b1), .val (.int y1), .val (.int y1), .val (.int y5), .val (.int y8), .val (.ref b146), .val (.ref b150), .val (.int y10), .val (.ref b150), .val (.int (0 : Int32)), .unset] [(.ref b150), (.ref b146)])) _
          refine st162.trans ?_
          show Steps p.tables e below (T162.setTop (mkF m 206 #[.val (.int p1), .val (.int p2), .val (.int p3), .val (.int p4), .val (.int p5), .val (.ref b1), .val (.int y1), .val (.int y1), .val (.int y5), .val (.int y8), .val (.ref b146), .val (.ref b150), .val (.int y10), .val (.ref b150), .val (.int (0 : Int32)), .unset] [(.int (0 : Int32))])) _
          refine XS.istore X162.here hx rfl (hb hby at_206) rfl (l' := #[.val (.int p1), .val (.int p2), .val (.int p3), .val (.int p4), .val (.int p5), .val (.ref b1), .val (.int y1), .val (.int y1), .val (.int y5), .val (.int y8), .val (.ref b146), .val (.ref b150), .val (.int y10), .val (.ref b150), .val (.int (0 : Int32)), .val (.int (0 : Int32))]) rfl ?_
          refine XS.iload X162.here hx rfl (hb hby at_208) rfl ?_
          refine XS.iload X162.here hx rfl (hb hby at_210) rfl ?_
          show Steps p.tables e below (T162.setTop (mkF m 212 #[.val (.int p1), .val (.int p2), .val (.int p3), .val (.int p4), .val (.int p5), .val (.ref b1), .val (.int y1), .val (.int y1), .val (.int y5), .val (.int y8), .val (.ref b146), .val (.ref b150), .val (.int y10), .val (.ref b150), .val (.int (0 : Int32)), .val (.int (0 : Int32))] [(.int (0 : Int32)), (.int (0 : Int32))])) _
          refine XS.icmpYes X162.here hx rfl (pc0 := 212) (pc' := 217) rfl (hb hby at_212) rfl (teq (rfl : (0 : Int32) = (0 : Int32))).1 (by decide) (by decide) ?_
          show Steps p.tables e below (T162.setTop (mkF m 217 #[.val (.int p1), .val (.int p2), .val (.int p3), .val (.int p4), .val (.int p5), .val (.ref b1), .val (.int y1), .val (.int y1), .val (.int y5), .val (.int y8), .val (.ref b146), .val (.ref b150), .val (.int y10), .val (.ref b150), .val (.int (0 : Int32)), .val (.int (0 : Int32))] [])) _
          refine XS.iload X162.here hx rfl (hb hby at_217) rfl ?_
          show Steps p.tables e below (T162.setTop (mkF m 219 #[.val (.int p1), .val (.int p2), .val (.int p3), .val (.int p4), .val (.int p5), .val (.ref b1), .val (.int y1), .val (.int y1), .val (.int y5), .val (.int y8), .val (.ref b146), .val (.ref b150), .val (.int y10), .val (.ref b150), .val (.int (0 : Int32)), .val (.int (0 : Int32))] [(.int y10)])) _
          refine XS.ifNo X162.here hx rfl (hb hby at_219) rfl ((if0 _ _).trans (teq hf154).2) ?_
          show Steps p.tables e below (T162.setTop (mkF m 222 #[.val (.int p1), .val (.int p2), .val (.int p3), .val (.int p4), .val (.int p5), .val (.ref b1), .val (.int y1), .val (.int y1), .val (.int y5), .val (.int y8), .val (.ref b146), .val (.ref b150), .val (.int y10), .val (.ref b150), .val (.int (0 : Int32)), .val (.int (0 : Int32))] [])) _
          refine XS.aload X162.here hx rfl (hb hby at_222) rfl rfl ?_
          refine XS.aload X162.here hx rfl (hb hby at_224) rfl rfl ?_
          show Steps p.tables e below (T162.setTop (mkF m 226 #[.val (.int p1), .val (.int p2), .val (.int p3), .val (.int p4), .val (.int p5), .val (.ref b1), .val (.int y1), .val (.int y1), .val (.int y5), .val (.int y8), .val (.ref b146), .val (.ref b150), .val (.int y10), .val (.ref b150), .val (.int (0 : Int32)), .val (.int (0 : Int32))] [(.ref b146), (.ref b150)])) _
          refine st167.trans ?_
          show Steps p.tables e below (T167.setTop (mkF m 229 #[.val (.int p1), .val (.int p2), .val (.int p3), .val (.int p4), .val (.int p5), .val (.ref b1), .val (.int y1), .val (.int y1), .val (.int y5), .val (.int y8), .val (.ref b146), .val (.ref b150), .val (.int y10), .val (.ref b150), .val (.int (0 : Int32)), .val (.int (0 : Int32))] [(.int (0 : Int32))])) _
          refine XS.iload X167.here hx rfl (hb hby at_229) rfl ?_
          show Steps p.tables e below (T167.setTop (mkF m 231 #[.val (.int p1), .val (.int p2), .val (.int p3), .val (.int p4), .val (.int p5), .val (.ref b1), .val (.int y1), .val (.int y1), .val (.int y5), .val (.int y8), .val (.ref b146), .val (.ref b150), .val (.int y10), .val (.ref b150), .val (.int (0 : Int32)), .val (.int (0 : Int32))] [(.int (0 : Int32)), (.int (0 : Int32))])) _
          refine XS.icmpNo X167.here hx rfl (hb hby at_231) rfl (teq (rfl : (0 : Int32) = (0 : Int32))).2 ?_
          show Steps p.tables e below (T167.setTop (mkF m 234 #[.val (.int p1), .val (.int p2), .val (.int p3), .val (.int p4), .val (.int p5), .val (.ref b1), .val (.int y1), .val (.int y1), .val (.int y5), .val (.int y8), .val (.ref b146), .val (.ref b150), .val (.int y10), .val (.ref b150), .val (.int (0 : Int32)), .val (.int (0 : Int32))] [])) _
          refine XS.iconst X167.here hx rfl (hb hby at_234) ?_
          refine XS.goto X167.here hx rfl (pc0 := 235) (pc' := 239) rfl (hb hby at_235) (by decide) (by decide) ?_
          show Steps p.tables e below (T167.setTop (mkF m 239 #[.val (.int p1), .val (.int p2), .val (.int p3), .val (.int p4), .val (.int p5), .val (.ref b1), .val (.int y1), .val (.int y1), .val (.int y5), .val (.int y8), .val (.ref b146), .val (.ref b150), .val (.int y10), .val (.ref b150), .val (.int (0 : Int32)), .val (.int (0 : Int32))] [(.int (1 : Int32))])) _
          exact retN X167 hx (t := .boolean) Bd.returns (by simp) (hb hby at_239) hr
      · have pre168 : ∀ t, Steps p.tables e below (T153.setTop (mkF m 161 #[.val (.int p1), .val (.int p2), .val (.int p3), .val (.int p4), .val (.int p5), .val (.ref b1), .val (.int y1), .val (.int y1), .val (.int y5), .val (.int y8), .val (.ref b146), .val (.ref b150), .val (.int y10), .unset, .unset, .unset] [(.int (1 : Int32)), (.int y10)])) t → Steps p.tables e below (s₁.setTop (entryFrame m #[(.int p1), (.int p2), (.int p3), (.int p4), (.int p5)] maxLocals)) t := by
          intro t kt
          refine pre154 _ ?_
          show Steps p.tables e below (T153.setTop (mkF m 127 #[.val (.int p1), .val (.int p2), .val (.int p3), .val (.int p4), .val (.int p5), .val (.ref b1), .val (.int y1), .val (.int y1), .val (.int y5), .val (.int y8), .val (.ref b146), .val (.ref b150), .val (.int y10), .unset, .unset, .unset] [(.int y10)])) _
          refine XS.ifYes X153.here hx rfl (pc0 := 127) (pc' := 158) rfl (hb hby at_127) rfl ((if0 _ _).trans (feq hf154).2) (by decide) (by decide) ?_
          show Steps p.tables e below (T153.setTop (mkF m 158 #[.val (.int p1), .val (.int p2), .val (.int p3), .val (.int p4), .val (.int p5), .val (.ref b1), .val (.int y1), .val (.int y1), .val (.int y5), .val (.int y8), .val (.ref b146), .val (.ref b150), .val (.int y10), .unset, .unset, .unset] [])) _
          refine XS.iload X153.here hx rfl (hb hby at_158) rfl ?_
          refine XS.iconst X153.here hx rfl (hb hby at_160) ?_
          exact kt
        by_cases hf168 : y10 = (1 : Int32)
        · have fc170 := (((A146.keep K149).ext E150).keep K153)
          obtain ⟨cq169, kq169, q169a, q169b, q169c⟩ := isOf hZ153 rfl fc170
          obtain ⟨_, _, ⟨T169, L169, k169, n169⟩, -, X169, ⟨Lc169, hQ169, l169, y169, z169⟩, st169⟩ := X153.virtualBack hx (y := (⟨"com/example/larch/larch/model/Interval", "equals", "(Ljava/lang/Object;)Z"⟩ : MethodName)) (z := (⟨"com/example/larch/larch/model/Interval", "equals", "(Ljava/lang/Object;)Z"⟩ : MethodName)) hown153 (mvT hZ153 (wd42 hw)) (mvT hZ153 (wd43 hw)) (notFace_of_selects (args := #[]) (mvT hZ153 (wd45 hw))) (mvT hZ153 (wd45 hw)) (mvT hZ153 (wd44 hw)) (by decide) (backOf (W := 0) (rm5_2 l Z a0 hw [] b146 T153.heap n0 OL153 ) hZ153 (wd46 hw) (wd19 hw) (by decide) (by decide)) q169a q169c (g := (mkF m 203 #[.val (.int p1), .val (.int p2), .val (.int p3), .val (.int p4), .val (.int p5), .val (.ref b1), .val (.int y1), .val (.int y1), .val (.int y5), .val (.int y8), .val (.ref b146), .val (.ref b150), .val (.int y10), .val .null, .val (.int (0 : Int32)), .unset] [.null, (.ref b146)])) rfl (by rw [hml]; rfl) (Steps.refl _) (argsL := [.null]) (rest := []) (lenOf pd_3 rfl) rfl (by show 2 * 0 + _ ≤ _; exact Nat.le_of_eq rfl) (hb hby at_203) (fun _ _ => ⟨rfl, rfl, (by decide : 7 + 0 ≤ _), (by decide : 48 + 0 ≤ _)⟩)
          dsimp only [Pt.U, Pt.locs, Pt.cells, Pt.slots] at X169 l169 y169 z169 st169 hQ169
          subst l169 y169 z169
          obtain ⟨rfl, Nq169, ec169⟩ := hQ169
          have N169 := Fr.app N153 Nq169
          obtain ⟨fs, hr, hrun, hended, hRW⟩ := X169.leaveW (s := s) hS153 (by rw [ec169]; exact (Nat.le_refl _)) (v := some (.int (1 : Int32))) (fun h => by rw [Bd.returns] at h; cases h)
          refine ⟨_, _, pre168 _ ?_, hrun, hended, _, _, rfl, ⟨rfl, N169⟩, hRW.1, hRW.2.1, hRW.2.2.1, hRW.2.2.2.mono (by decide) (by decide)⟩
          show Steps p.tables e below (T153.setTop (mkF m 161 #[.val (.int p1), .val (.int p2), .val (.int p3), .val (.int p4), .val (.int p5), .val (.ref b1), .val (.int y1), .val (.int y1), .val (.int y5), .val (.int y8), .val (.ref b146), .val (.ref b150), .val (.int y10), .unset, .unset, .unset] [(.int (1 : Int32)), (.int y10)])) _
          refine XS.icmpNo X153.here hx rfl (hb hby at_161) rfl (teq hf168).2 ?_
          show Steps p.tables e below (T153.setTop (mkF m 164 #[.val (.int p1), .val (.int p2), .val (.int p3), .val (.int p4), .val (.int p5), .val (.ref b1), .val (.int y1), .val (.int y1), .val (.int y5), .val (.int y8), .val (.ref b146), .val (.ref b150), .val (.int y10), .unset, .unset, .unset] [])) _
          refine XS.aconstNull X153.here hx rfl (hb hby at_164) ?_
          refine XS.astore X153.here hx rfl (hb hby at_165) rfl rfl (l' := #[.val (.int p1), .val (.int p2), .val (.int p3), .val (.int p4), .val (.int p5), .val (.ref b1), .val (.int y1), .val (.int y1), .val (.int y5), .val (.int y8), .val (.ref b146), .val (.ref b150), .val (.int y10), .val .null, .unset, .unset]) rfl ?_
          refine XS.iconst X153.here hx rfl (hb hby at_167) ?_
          refine XS.istore X153.here hx rfl (hb hby at_168) rfl (l' := #[.val (.int p1), .val (.int p2), .val (.int p3), .val (.int p4), .val (.int p5), .val (.ref b1), .val (.int y1), .val (.int y1), .val (.int y5), .val (.int y8), .val (.ref b146), .val (.ref b150), .val (.int y10), .val .null, .val (.int (0 : Int32)), .unset]) rfl ?_
          show Steps p.tables e below (T153.setTop (mkF m 170 #[.val (.int p1), .val (.int p2), .val (.int p3), .val (.int p4), .val (.int p5), .val (.ref b1), .val (.int y1), .val (.int y1), .val (.int y5), .val (.int y8), .val (.ref b146), .val (.ref b150), .val (.int y10), .val .null, .val (.int (0 : Int32)), .unset] [])) _
          refine XS.goto X153.here hx rfl (pc0 := 170) (pc' := 199) rfl (hb hby at_170) (by decide) (by decide) ?_
          refine XS.aload X153.here hx rfl (hb hby at_199) rfl rfl ?_
          refine XS.aload X153.here hx rfl (hb hby at_201) rfl rfl ?_
          show Steps p.tables e below (T153.setTop (mkF m 203 #[.val (.int p1), .val (.int p2), .val (.int p3), .val (.int p4), .val (.int p5), .val (.ref b1), .val (.int y1), .val (.int y1), .val (.int y5), .val (.int y8), .val (.ref b146), .val (.ref b150), .val (.int y10), .val .null, .val (.int (0 : Int32)), .unset] [.null, (.ref b146)])) _
          refine st169.trans ?_
          show Steps p.tables e below (T169.setTop (mkF m 206 #[.val (.int p1), .val (.int p2), .val (.int p3), .val (.int p4), .val (.int p5), .val (.ref b1), .val (.int y1), .val (.int y1), .val (.int y5), .val (.int y8), .val (.ref b146), .val (.ref b150), .val (.int y10), .val .null, .val (.int (0 : Int32)), .unset] [(.int (0 : Int32))])) _
          refine XS.istore X169.here hx rfl (hb hby at_206) rfl (l' := #[.val (.int p1), .val (.int p2), .val (.int p3), .val (.int p4), .val (.int p5), .val (.ref b1), .val (.int y1), .val (.int y1), .val (.int y5), .val (.int y8), .val (.ref b146), .val (.ref b150), .val (.int y10), .val .null, .val (.int (0 : Int32)), .val (.int (0 : Int32))]) rfl ?_
          refine XS.iload X169.here hx rfl (hb hby at_208) rfl ?_
          refine XS.iload X169.here hx rfl (hb hby at_210) rfl ?_
          show Steps p.tables e below (T169.setTop (mkF m 212 #[.val (.int p1), .val (.int p2), .val (.int p3), .val (.int p4), .val (.int p5), .val (.ref b1), .val (.int y1), .val (.int y1), .val (.int y5), .val (.int y8), .val (.ref b146), .val (.ref b150), .val (.int y10), .val .null, .val (.int (0 : Int32)), .val (.int (0 : Int32))] [(.int (0 : Int32)), (.int (0 : Int32))])) _
          refine XS.icmpYes X169.here hx rfl (pc0 := 212) (pc' := 217) rfl (hb hby at_212) rfl (teq (rfl : (0 : Int32) = (0 : Int32))).1 (by decide) (by decide) ?_
          show Steps p.tables e below (T169.setTop (mkF m 217 #[.val (.int p1), .val (.int p2), .val (.int p3), .val (.int p4), .val (.int p5), .val (.ref b1), .val (.int y1), .val (.int y1), .val (.int y5), .val (.int y8), .val (.ref b146), .val (.ref b150), .val (.int y10), .val .null, .val (.int (0 : Int32)), .val (.int (0 : Int32))] [])) _
          refine XS.iload X169.here hx rfl (hb hby at_217) rfl ?_
          show Steps p.tables e below (T169.setTop (mkF m 219 #[.val (.int p1), .val (.int p2), .val (.int p3), .val (.int p4), .val (.int p5), .val (.ref b1), .val (.int y1), .val (.int y1), .val (.int y5), .val (.int y8), .val (.ref b146), .val (.ref b150), .val (.int y10), .val .null, .val (.int (0 : Int32)), .val (.int (0 : Int32))] [(.int y10)])) _
          refine XS.ifYes X169.here hx rfl (pc0 := 219) (pc' := 240) rfl (hb hby at_219) rfl ((if0 _ _).trans (feq hf154).2) (by decide) (by decide) ?_
          show Steps p.tables e below (T169.setTop (mkF m 240 #[.val (.int p1), .val (.int p2), .val (.int p3), .val (.int p4), .val (.int p5), .val (.ref b1), .val (.int y1), .val (.int y1), .val (.int y5), .val (.int y8), .val (.ref b146), .val (.ref b150), .val (.int y10), .val .null, .val (.int (0 : Int32)), .val (.int (0 : Int32))] [])) _
          refine XS.iconst X169.here hx rfl (hb hby at_240) ?_
          show Steps p.tables e below (T169.setTop (mkF m 241 #[.val (.int p1), .val (.int p2), .val (.int p3), .val (.int p4), .val (.int p5), .val (.ref b1), .val (.int y1), .val (.int y1), .val (.int y5), .val (.int y8), .val (.ref b146), .val (.ref b150), .val (.int y10), .val .null, .val (.int (0 : Int32)), .val (.int (0 : Int32))] [(.int (1 : Int32))])) _
          exact retN X169 hx (t := .boolean) Bd.returns (by simp) (hb hby at_241) hr
        · have pre171 : ∀ t, Steps p.tables e below (T153.setTop (mkF m 176 #[.val (.int p1), .val (.int p2), .val (.int p3), .val (.int p4), .val (.int p5), .val (.ref b1), .val (.int y1), .val (.int y1), .val (.int y5), .val (.int y8), .val (.ref b146), .val (.ref b150), .val (.int y10), .unset, .unset, .unset] [(.int (2 : Int32)), (.int y10)])) t → Steps p.tables e below (s₁.setTop (entryFrame m #[(.int p1), (.int p2), (.int p3), (.int p4), (.int p5)] maxLocals)) t := by
            intro t kt
            refine pre168 _ ?_
            show Steps p.tables e below (T153.setTop (mkF m 161 #[.val (.int p1), .val (.int p2), .val (.int p3), .val (.int p4), .val (.int p5), .val (.ref b1), .val (.int y1), .val (.int y1), .val (.int y5), .val (.int y8), .val (.ref b146), .val (.ref b150), .val (.int y10), .unset, .unset, .unset] [(.int (1 : Int32)), (.int y10)])) _
            refine XS.icmpYes X153.here hx rfl (pc0 := 161) (pc' := 173) rfl (hb hby at_161) rfl (feq hf168).2 (by decide) (by decide) ?_
            show Steps p.tables e below (T153.setTop (mkF m 173 #[.val (.int p1), .val (.int p2), .val (.int p3), .val (.int p4), .val (.int p5), .val (.ref b1), .val (.int y1), .val (.int y1), .val (.int y5), .val (.int y8), .val (.ref b146), .val (.ref b150), .val (.int y10), .unset, .unset, .unset] [])) _
            refine XS.iload X153.here hx rfl (hb hby at_173) rfl ?_
            refine XS.iconst X153.here hx rfl (hb hby at_175) ?_
            exact kt
          by_cases hf171 : y10 = (2 : Int32)
          · have pre172 : ∀ t, Steps p.tables e below (T153.setTop (mkF m 181 #[.val (.int p1), .val (.int p2), .val (.int p3), .val (.int p4), .val (.int p5), .val (.ref b1), .val (.int y1), .val (.int y1), .val (.int y5), .val (.int y8), .val (.ref b146), .val (.ref b150), .val (.int y10), .unset, .unset, .unset] [(.int y5)])) t → Steps p.tables e below (s₁.setTop (entryFrame m #[(.int p1), (.int p2), (.int p3), (.int p4), (.int p5)] maxLocals)) t := by
              intro t kt
              refine pre171 _ ?_
              show Steps p.tables e below (T153.setTop (mkF m 176 #[.val (.int p1), .val (.int p2), .val (.int p3), .val (.int p4), .val (.int p5), .val (.ref b1), .val (.int y1), .val (.int y1), .val (.int y5), .val (.int y8), .val (.ref b146), .val (.ref b150), .val (.int y10), .unset, .unset, .unset] [(.int (2 : Int32)), (.int y10)])) _
              refine XS.icmpNo X153.here hx rfl (hb hby at_176) rfl (teq hf171).2 ?_
              show Steps p.tables e below (T153.setTop (mkF m 179 #[.val (.int p1), .val (.int p2), .val (.int p3), .val (.int p4), .val (.int p5), .val (.ref b1), .val (.int y1), .val (.int y1), .val (.int y5), .val (.int y8), .val (.ref b146), .val (.ref b150), .val (.int y10), .unset, .unset, .unset] [])) _
              refine XS.iload X153.here hx rfl (hb hby at_179) rfl ?_
              exact kt
            by_cases hf172 : (127 : Int32) < y5
            · obtain ⟨_, _, ⟨T173, L173, k173, n173⟩, -, X173, ⟨Lc173, hQ173, l173, y173, z173⟩, st173⟩ := Jvm.LawKit.callS X153 hx (y := (⟨"java/lang/Integer", "valueOf", "(I)Ljava/lang/Integer;"⟩ : MethodName)) hown153 (mvT hZ153 (wd49 hw)) (mvT hZ153 (wd50 hw)) (mvT hZ153 (wd51 hw)) (mvT hZ153 (wd52 hw)) (by decide) (backOf (W := 0) (rm6_0 l Z a0 hw [] y5 T153.heap n0 OL153 pr26 pr27 hf172) hZ153 (wd52 hw) (wd51 hw) (by decide) (by decide)) (g := (mkF m 181 #[.val (.int p1), .val (.int p2), .val (.int p3), .val (.int p4), .val (.int p5), .val (.ref b1), .val (.int y1), .val (.int y1), .val (.int y5), .val (.int y8), .val (.ref b146), .val (.ref b150), .val (.int y10), .unset, .unset, .unset] [(.int y5)])) rfl (by rw [hml]; rfl) (argsL := [(.int y5)]) (rest := []) (lenOf pd_6 rfl) rfl (by show 2 * 0 + _ ≤ _; exact Nat.le_of_eq rfl) (hb hby at_181) (fun _ _ => ⟨rfl, rfl, (by decide : 7 + 1 ≤ _), (by decide : 48 + 1 ≤ _)⟩)
              dsimp only [Pt.U, Pt.locs, Pt.cells, Pt.slots] at X173 l173 y173 z173 st173 hQ173
              subst l173 y173 z173
              obtain ⟨b173_0, rfl, Nq173, K173, u173_0, u173_1, u173_2⟩ := hQ173
              have KK173 : Keep h0 T173.heap [] := KK153.trans K173 all0
              have OL173 := OL153.keep K173 all0
              have g_b173_0 : n0 ≤ b173_0 := Nat.le_trans (Nat.le_trans (Nat.le_of_eq OL153.1.symm) OL153.2.1) u173_0
              have sz_b173_0 : h0.size ≤ b173_0 := Nat.le_trans KK153.1 u173_0
              have N173 := Fr.app N153 Nq173
              have fc175 := ((((A146.keep K149).ext E150).keep K153).keep K173)
              obtain ⟨cq174, kq174, q174a, q174b, q174c⟩ := isOf hZ153 rfl fc175
              obtain ⟨_, _, ⟨T174, L174, k174, n174⟩, -, X174, ⟨Lc174, hQ174, l174, y174, z174⟩, st174⟩ := X173.virtualBack hx (y := (⟨"com/example/larch/larch/model/Interval", "equals", "(Ljava/lang/Object;)Z"⟩ : MethodName)) (z := (⟨"com/example/larch/larch/model/Interval", "equals", "(Ljava/lang/Object;)Z"⟩ : MethodName)) hown153 (mvT hZ153 (wd42 hw)) (mvT hZ153 (wd43 hw)) (notFace_of_selects (args := #[]) (mvT hZ153 (wd45 hw))) (mvT hZ153 (wd45 hw)) (mvT hZ153 (wd44 hw)) (by decide) (backOf (W := 0) (rm5_3 l Z a0 hw [] b146 b173_0 T173.heap n0 OL173 u173_1) hZ153 (wd46 hw) (wd19 hw) (by decide) (by decide)) q174a q174c (g := (mkF m 203 #[.val (.int p1), .val (.int p2), .val (.int p3), .val (.int p4), .val (.int p5), .val (.ref b1), .val (.int y1), .val (.int y1), .val (.int y5), .val (.int y8), .val (.ref b146), .val (.ref b150), .val (.int y10), .val (.ref b173_0), .val (.int (0 : Int32)), .unset] [(.ref b173_0), (.ref b146)])) rfl (by rw [hml]; rfl) (Steps.refl _) (argsL := [(.ref b173_0)]) (rest := []) (lenOf pd_3 rfl) rfl (by show 2 * 0 + _ ≤ _; exact Nat.le_of_eq rfl) (hb hby at_203) (fun _ _ => ⟨rfl, rfl, (by decide : 8 + 0 ≤ _), (by decide : 49 + 0 ≤ _)⟩)
              dsimp only [Pt.U, Pt.locs, Pt.cells, Pt.slots] at X174 l174 y174 z174 st174 hQ174
              subst l174 y174 z174
              obtain ⟨rfl, Nq174, ec174⟩ := hQ174
              have N174 := Fr.app N173 Nq174
              obtain ⟨fs, hr, hrun, hended, hRW⟩ := X174.leaveW (s := s) hS153 (by rw [ec174]; exact (Nat.le_trans (Nat.le_refl _) K173.1)) (v := some (.int (1 : Int32))) (fun h => by rw [Bd.returns] at h; cases h)
              refine ⟨_, _, pre172 _ ?_, hrun, hended, _, _, rfl, ⟨rfl, N174⟩, hRW.1, hRW.2.1, hRW.2.2.1, hRW.2.2.2.mono (by decide) (by decide)⟩
              show Steps p.tables e below (T153.setTop (mkF m 181 #[.val (.int p1), .val (.int p2), .val (.int p3), .val (.int p4), .val (.int p5), .val (.ref b1), .val (.int y1), .val (.int y1), .val (.int y5), .val (.int y8), .val (.ref b146), .val (.ref b150), .val (.int y10), .unset, .unset, .unset] [(.int y5)])) _
              refine st173 _ ?_
              show Steps p.tables e below (T173.setTop (mkF m 184 #[.val (.int p1), .val (.int p2), .val (.int p3), .val (.int p4), .val (.int p5), .val (.ref b1), .val (.int y1), .val (.int y1), .val (.int y5), .val (.int y8), .val (.ref b146), .val (.ref b150), .val (.int y10), .unset, .unset, .unset] [(.ref b173_0)])) _
              refine XS.astore X173.here hx rfl (hb hby at_184) rfl rfl (l' := #[.val (.int p1), .val (.int p2), .val (.int p3), .val (.int p4), .val (.int p5), .val (.ref b1), .val (.int y1), .val (.int y1), .val (.int y5), .val (.int y8), .val (.ref b146), .val (.ref b150), .val (.int y10), .val (.ref b173_0), .unset, .unset]) rfl ?_
              refine XS.iconst X173.here hx rfl (hb hby at_186) ?_
              refine XS.istore X173.here hx rfl (hb hby at_187) rfl (l' := #[.val (.int p1), .val (.int p2), .val (.int p3), .val (.int p4), .val (.int p5), .val (.ref b1), .val (.int y1), .val (.int y1), .val (.int y5), .val (.int y8), .val (.ref b146), .val (.ref b150), .val (.int y10), .val (.ref b173_0), .val (.int (0 : Int32)), .unset]) rfl ?_
              refine XS.goto X173.here hx rfl (pc0 := 189) (pc' := 199) rfl (hb hby at_189) (by decide) (by decide) ?_
              show Steps p.tables e below (T173.setTop (mkF m 199 #[.val (.int p1), .val (.int p2), .val (.int p3), .val (.int p4), .val (.int p5), .val (.ref b1), .val (.int y1), .val (.int y1), .val (.int y5), .val (.int y8), .val (.ref b146), .val (.ref b150), .val (.int y10), .val (.ref b173_0), .val (.int (0 : Int32)), .unset] [])) _
              refine XS.aload X173.here hx rfl (hb hby at_199) rfl rfl ?_
              refine XS.aload X173.here hx rfl (hb hby at_201) rfl rfl ?_
              show Steps p.tables e below (T173.setTop (mkF m 203 #[.val (.int p1), .val (.int p2), .val (.int p3), .val (.int p4), .val (.int p5), .val (.ref b1), .val (.int y1), .val (.int y1), .val (.int y5), .val (.int y8), .val (.ref b146), .val (.ref b150), .val (.int y10), .val (.ref b173_0), .val (.int (0 : Int32)), .unset] [(.ref b173_0), (.ref b146)])) _
              refine st174.trans ?_
              show Steps p.tables e below (T174.setTop (mkF m 206 #[.val (.int p1), .val (.int p2), .val (.int p3), .val (.int p4), .val (.int p5), .val (.ref b1), .val (.int y1), .val (.int y1), .val (.int y5), .val (.int y8), .val (.ref b146), .val (.ref b150), .val (.int y10), .val (.ref b173_0), .val (.int (0 : Int32)), .unset] [(.int (0 : Int32))])) _
              refine XS.istore X174.here hx rfl (hb hby at_206) rfl (l' := #[.val (.int p1), .val (.int p2), .val (.int p3), .val (.int p4), .val (.int p5), .val (.ref b1), .val (.int y1), .val (.int y1), .val (.int y5), .val (.int y8), .val (.ref b146), .val (.ref b150), .val (.int y10), .val (.ref b173_0), .val (.int (0 : Int32)), .val (.int (0 : Int32))]) rfl ?_
              refine XS.iload X174.here hx rfl (hb hby at_208) rfl ?_
              refine XS.iload X174.here hx rfl (hb hby at_210) rfl ?_
              show Steps p.tables e below (T174.setTop (mkF m 212 #[.val (.int p1), .val (.int p2), .val (.int p3), .val (.int p4), .val (.int p5), .val (.ref b1), .val (.int y1), .val (.int y1), .val (.int y5), .val (.int y8), .val (.ref b146), .val (.ref b150), .val (.int y10), .val (.ref b173_0), .val (.int (0 : Int32)), .val (.int (0 : Int32))] [(.int (0 : Int32)), (.int (0 : Int32))])) _
              refine XS.icmpYes X174.here hx rfl (pc0 := 212) (pc' := 217) rfl (hb hby at_212) rfl (teq (rfl : (0 : Int32) = (0 : Int32))).1 (by decide) (by decide) ?_
              show Steps p.tables e below (T174.setTop (mkF m 217 #[.val (.int p1), .val (.int p2), .val (.int p3), .val (.int p4), .val (.int p5), .val (.ref b1), .val (.int y1), .val (.int y1), .val (.int y5), .val (.int y8), .val (.ref b146), .val (.ref b150), .val (.int y10), .val (.ref b173_0), .val (.int (0 : Int32)), .val (.int (0 : Int32))] [])) _
              refine XS.iload X174.here hx rfl (hb hby at_217) rfl ?_
              show Steps p.tables e below (T174.setTop (mkF m 219 #[.val (.int p1), .val (.int p2), .val (.int p3), .val (.int p4), .val (.int p5), .val (.ref b1), .val (.int y1), .val (.int y1), .val (.int y5), .val (.int y8), .val (.ref b146), .val (.ref b150), .val (.int y10), .val (.ref b173_0), .val (.int (0 : Int32)), .val (.int (0 : Int32))] [(.int y10)])) _
              refine XS.ifYes X174.here hx rfl (pc0 := 219) (pc' := 240) rfl (hb hby at_219) rfl ((if0 _ _).trans (feq hf154).2) (by decide) (by decide) ?_
              show Steps p.tables e below (T174.setTop (mkF m 240 #[.val (.int p1), .val (.int p2), .val (.int p3), .val (.int p4), .val (.int p5), .val (.ref b1), .val (.int y1), .val (.int y1), .val (.int y5), .val (.int y8), .val (.ref b146), .val (.ref b150), .val (.int y10), .val (.ref b173_0), .val (.int (0 : Int32)), .val (.int (0 : Int32))] [])) _
              refine XS.iconst X174.here hx rfl (hb hby at_240) ?_
              show Steps p.tables e below (T174.setTop (mkF m 241 #[.val (.int p1), .val (.int p2), .val (.int p3), .val (.int p4), .val (.int p5), .val (.ref b1), .val (.int y1), .val (.int y1), .val (.int y5), .val (.int y8), .val (.ref b146), .val (.ref b150), .val (.int y10), .val (.ref b173_0), .val (.int (0 : Int32)), .val (.int (0 : Int32))] [(.int (1 : Int32))])) _
              exact retN X174 hx (t := .boolean) Bd.returns (by simp) (hb hby at_241) hr
            · obtain ⟨cx176, bx176⟩ := id pr28
              obtain ⟨wc1, at176, Ea176, Fa176⟩ := own_box bx176 (j := (y5 + (128 : Int32))) (own_inbox pr26 hf172).1 (own_inbox pr26 hf172).2
              simp only [own_addsub] at Fa176
              obtain ⟨_, _, ⟨T177, L177, k177, n177⟩, -, X177, ⟨Lc177, hQ177, l177, y177, z177⟩, st177⟩ := Jvm.LawKit.callS X153 hx (y := (⟨"java/lang/Integer", "valueOf", "(I)Ljava/lang/Integer;"⟩ : MethodName)) hown153 (mvT hZ153 (wd49 hw)) (mvT hZ153 (wd50 hw)) (mvT hZ153 (wd51 hw)) (mvT hZ153 (wd52 hw)) (by decide) (backOf (W := 0) (rm6_1 l Z a0 hw [] y5 w_cache wc1 T153.heap n0 OL153 pr26 pr27 hf172 pr29 at176) hZ153 (wd52 hw) (wd51 hw) (by decide) (by decide)) (g := (mkF m 181 #[.val (.int p1), .val (.int p2), .val (.int p3), .val (.int p4), .val (.int p5), .val (.ref b1), .val (.int y1), .val (.int y1), .val (.int y5), .val (.int y8), .val (.ref b146), .val (.ref b150), .val (.int y10), .unset, .unset, .unset] [(.int y5)])) rfl (by rw [hml]; rfl) (argsL := [(.int y5)]) (rest := []) (lenOf pd_6 rfl) rfl (by show 2 * 0 + _ ≤ _; exact Nat.le_of_eq rfl) (hb hby at_181) (fun _ _ => ⟨rfl, rfl, (by decide : 7 + 0 ≤ _), (by decide : 48 + 0 ≤ _)⟩)
              dsimp only [Pt.U, Pt.locs, Pt.cells, Pt.slots] at X177 l177 y177 z177 st177 hQ177
              subst l177 y177 z177
              obtain ⟨rfl, Nq177, ec177⟩ := hQ177
              have N177 := Fr.app N153 Nq177
              have fc179 := (((A146.keep K149).ext E150).keep K153)
              obtain ⟨cq178, kq178, q178a, q178b, q178c⟩ := isOf hZ153 ec177 fc179
              obtain ⟨_, _, ⟨T178, L178, k178, n178⟩, -, X178, ⟨Lc178, hQ178, l178, y178, z178⟩, st178⟩ := X177.virtualBack hx (y := (⟨"com/example/larch/larch/model/Interval", "equals", "(Ljava/lang/Object;)Z"⟩ : MethodName)) (z := (⟨"com/example/larch/larch/model/Interval", "equals", "(Ljava/lang/Object;)Z"⟩ : MethodName)) hown153 (mvT hZ153 (wd42 hw)) (mvT hZ153 (wd43 hw)) (notFace_of_selects (args := #[]) (mvT hZ153 (wd45 hw))) (mvT hZ153 (wd45 hw)) (mvT hZ153 (wd44 hw)) (by decide) (backOf (W := 0) (rm5_4 l Z a0 hw [] b146 wc1 T153.heap n0 OL153 Ea176) hZ153 (wd46 hw) (wd19 hw) (by decide) (by decide)) q178a q178c (g := (mkF m 203 #[.val (.int p1), .val (.int p2), .val (.int p3), .val (.int p4), .val (.int p5), .val (.ref b1), .val (.int y1), .val (.int y1), .val (.int y5), .val (.int y8), .val (.ref b146), .val (.ref b150), .val (.int y10), .val (.ref wc1), .val (.int (0 : Int32)), .unset] [(.ref wc1), (.ref b146)])) rfl (by rw [hml]; rfl) (Steps.refl _) (argsL := [(.ref wc1)]) (rest := []) (lenOf pd_3 rfl) rfl (by show 2 * 0 + _ ≤ _; exact Nat.le_of_eq rfl) (hb hby at_203) (fun _ _ => ⟨rfl, ec177, (by decide : 7 + 0 ≤ _), (by decide : 48 + 0 ≤ _)⟩)
              dsimp only [Pt.U, Pt.locs, Pt.cells, Pt.slots] at X178 l178 y178 z178 st178 hQ178
              subst l178 y178 z178
              obtain ⟨rfl, Nq178, ec178⟩ := hQ178
              have N178 := Fr.app N177 Nq178
              obtain ⟨fs, hr, hrun, hended, hRW⟩ := X178.leaveW (s := s) hS153 (by rw [ec178]; exact (Nat.le_refl _)) (v := some (.int (1 : Int32))) (fun h => by rw [Bd.returns] at h; cases h)
              refine ⟨_, _, pre172 _ ?_, hrun, hended, _, _, rfl, ⟨rfl, N178⟩, hRW.1, hRW.2.1, hRW.2.2.1, hRW.2.2.2.mono (by decide) (by decide)⟩
              show Steps p.tables e below (T153.setTop (mkF m 181 #[.val (.int p1), .val (.int p2), .val (.int p3), .val (.int p4), .val (.int p5), .val (.ref b1), .val (.int y1), .val (.int y1), .val (.int y5), .val (.int y8), .val (.ref b146), .val (.ref b150), .val (.int y10), .unset, .unset, .unset] [(.int y5)])) _
              refine st177 _ ?_
              show Steps p.tables e below (T177.setTop (mkF m 184 #[.val (.int p1), .val (.int p2), .val (.int p3), .val (.int p4), .val (.int p5), .val (.ref b1), .val (.int y1), .val (.int y1), .val (.int y5), .val (.int y8), .val (.ref b146), .val (.ref b150), .val (.int y10), .unset, .unset, .unset] [(.ref wc1)])) _
              refine XS.astore X177.here hx rfl (hb hby at_184) rfl rfl (l' := #[.val (.int p1), .val (.int p2), .val (.int p3), .val (.int p4), .val (.int p5), .val (.ref b1), .val (.int y1), .val (.int y1), .val (.int y5), .val (.int y8), .val (.ref b146), .val (.ref b150), .val (.int y10), .val (.ref wc1), .unset, .unset]) rfl ?_
              refine XS.iconst X177.here hx rfl (hb hby at_186) ?_
              refine XS.istore X177.here hx rfl (hb hby at_187) rfl (l' := #[.val (.int p1), .val (.int p2), .val (.int p3), .val (.int p4), .val (.int p5), .val (.ref b1), .val (.int y1), .val (.int y1), .val (.int y5), .val (.int y8), .val (.ref b146), .val (.ref b150), .val (.int y10), .val (.ref wc1), .val (.int (0 : Int32)), .unset]) rfl ?_
              refine XS.goto X177.here hx rfl (pc0 := 189) (pc' := 199) rfl (hb hby at_189) (by decide) (by decide) ?_
              show Steps p.tables e below (T177.setTop (mkF m 199 #[.val (.int p1), .val (.int p2), .val (.int p3), .val (.int p4), .val (.int p5), .val (.ref b1), .val (.int y1), .val (.int y1), .val (.int y5), .val (.int y8), .val (.ref b146), .val (.ref b150), .val (.int y10), .val (.ref wc1), .val (.int (0 : Int32)), .unset] [])) _
              refine XS.aload X177.here hx rfl (hb hby at_199) rfl rfl ?_
              refine XS.aload X177.here hx rfl (hb hby at_201) rfl rfl ?_
              show Steps p.tables e below (T177.setTop (mkF m 203 #[.val (.int p1), .val (.int p2), .val (.int p3), .val (.int p4), .val (.int p5), .val (.ref b1), .val (.int y1), .val (.int y1), .val (.int y5), .val (.int y8), .val (.ref b146), .val (.ref b150), .val (.int y10), .val (.ref wc1), .val (.int (0 : Int32)), .unset] [(.ref wc1), (.ref b146)])) _
              refine st178.trans ?_
              show Steps p.tables e below (T178.setTop (mkF m 206 #[.val (.int p1), .val (.int p2), .val (.int p3), .val (.int p4), .val (.int p5), .val (.ref b1), .val (.int y1), .val (.int y1), .val (.int y5), .val (.int y8), .val (.ref b146), .val (.ref b150), .val (.int y10), .val (.ref wc1), .val (.int (0 : Int32)), .unset] [(.int (0 : Int32))])) _
              refine XS.istore X178.here hx rfl (hb hby at_206) rfl (l' := #[.val (.int p1), .val (.int p2), .val (.int p3), .val (.int p4), .val (.int p5), .val (.ref b1), .val (.int y1), .val (.int y1), .val (.int y5), .val (.int y8), .val (.ref b146), .val (.ref b150), .val (.int y10), .val (.ref wc1), .val (.int (0 : Int32)), .val (.int (0 : Int32))]) rfl ?_
              refine XS.iload X178.here hx rfl (hb hby at_208) rfl ?_
              refine XS.iload X178.here hx rfl (hb hby at_210) rfl ?_
              show Steps p.tables e below (T178.setTop (mkF m 212 #[.val (.int p1), .val (.int p2), .val (.int p3), .val (.int p4), .val (.int p5), .val (.ref b1), .val (.int y1), .val (.int y1), .val (.int y5), .val (.int y8), .val (.ref b146), .val (.ref b150), .val (.int y10), .val (.ref wc1), .val (.int (0 : Int32)), .val (.int (0 : Int32))] [(.int (0 : Int32)), (.int (0 : Int32))])) _
              refine XS.icmpYes X178.here hx rfl (pc0 := 212) (pc' := 217) rfl (hb hby at_212) rfl (teq (rfl : (0 : Int32) = (0 : Int32))).1 (by decide) (by decide) ?_
              show Steps p.tables e below (T178.setTop (mkF m 217 #[.val (.int p1), .val (.int p2), .val (.int p3), .val (.int p4), .val (.int p5), .val (.ref b1), .val (.int y1), .val (.int y1), .val (.int y5), .val (.int y8), .val (.ref b146), .val (.ref b150), .val (.int y10), .val (.ref wc1), .val (.int (0 : Int32)), .val (.int (0 : Int32))] [])) _
              refine XS.iload X178.here hx rfl (hb hby at_217) rfl ?_
              show Steps p.tables e below (T178.setTop (mkF m 219 #[.val (.int p1), .val (.int p2), .val (.int p3), .val (.int p4), .val (.int p5), .val (.ref b1), .val (.int y1), .val (.int y1), .val (.int y5), .val (.int y8), .val (.ref b146), .val (.ref b150), .val (.int y10), .val (.ref wc1), .val (.int (0 : Int32)), .val (.int (0 : Int32))] [(.int y10)])) _
              refine XS.ifYes X178.here hx rfl (pc0 := 219) (pc' := 240) rfl (hb hby at_219) rfl ((if0 _ _).trans (feq hf154).2) (by decide) (by decide) ?_
              show Steps p.tables e below (T178.setTop (mkF m 240 #[.val (.int p1), .val (.int p2), .val (.int p3), .val (.int p4), .val (.int p5), .val (.ref b1), .val (.int y1), .val (.int y1), .val (.int y5), .val (.int y8), .val (.ref b146), .val (.ref b150), .val (.int y10), .val (.ref wc1), .val (.int (0 : Int32)), .val (.int (0 : Int32))] [])) _
              refine XS.iconst X178.here hx rfl (hb hby at_240) ?_
              show Steps p.tables e below (T178.setTop (mkF m 241 #[.val (.int p1), .val (.int p2), .val (.int p3), .val (.int p4), .val (.int p5), .val (.ref b1), .val (.int y1), .val (.int y1), .val (.int y5), .val (.int y8), .val (.ref b146), .val (.ref b150), .val (.int y10), .val (.ref wc1), .val (.int (0 : Int32)), .val (.int (0 : Int32))] [(.int (1 : Int32))])) _
              exact retN X178 hx (t := .boolean) Bd.returns (by simp) (hb hby at_241) hr
          · have fc181 := (((A146.keep K149).ext E150).keep K153)
            have fc182 := ((u149_0.ext E150).keep K153 (ninS (Nat.ne_of_lt (Nat.lt_of_lt_of_le u149_1.lt (Nat.le_of_eq g150.symm))) nin0))
            have fc183 := ((u149_1.ext E150).keep K153 (ninS (Nat.ne_of_lt (Nat.lt_of_lt_of_le u149_1.lt (Nat.le_of_eq g150.symm))) nin0))
            obtain ⟨cq180, kq180, q180a, q180b, q180c⟩ := isOf hZ153 rfl fc181
            obtain ⟨_, _, ⟨T180, L180, k180, n180⟩, -, X180, ⟨Lc180, hQ180, l180, y180, z180⟩, st180⟩ := X153.virtualBack hx (y := (⟨"com/example/larch/larch/model/Interval", "equals", "(Ljava/lang/Object;)Z"⟩ : MethodName)) (z := (⟨"com/example/larch/larch/model/Interval", "equals", "(Ljava/lang/Object;)Z"⟩ : MethodName)) hown153 (mvT hZ153 (wd42 hw)) (mvT hZ153 (wd43 hw)) (notFace_of_selects (args := #[]) (mvT hZ153 (wd45 hw))) (mvT hZ153 (wd45 hw)) (mvT hZ153 (wd44 hw)) (by decide) (backOf (W := 0) (rm5_5 l Z a0 hw [] b146 v1 y5 T153.heap n0 OL153 fc181 fc182 fc183) hZ153 (wd46 hw) (wd19 hw) (by decide) (by decide)) q180a q180c (g := (mkF m 203 #[.val (.int p1), .val (.int p2), .val (.int p3), .val (.int p4), .val (.int p5), .val (.ref b1), .val (.int y1), .val (.int y1), .val (.int y5), .val (.int y8), .val (.ref b146), .val (.ref b150), .val (.int y10), .val (.ref b146), .val (.int (1 : Int32)), .unset] [(.ref b146), (.ref b146)])) rfl (by rw [hml]; rfl) (Steps.refl _) (argsL := [(.ref b146)]) (rest := []) (lenOf pd_3 rfl) rfl (by show 2 * 0 + _ ≤ _; exact Nat.le_of_eq rfl) (hb hby at_203) (fun _ _ => ⟨rfl, rfl, (by decide : 7 + 0 ≤ _), (by decide : 48 + 0 ≤ _)⟩)
            dsimp only [Pt.U, Pt.locs, Pt.cells, Pt.slots] at X180 l180 y180 z180 st180 hQ180
            subst l180 y180 z180
            obtain ⟨rfl, Nq180, ec180⟩ := hQ180
            have N180 := Fr.app N153 Nq180
            obtain ⟨fs, hr, hrun, hended, hRW⟩ := X180.leaveW (s := s) hS153 (by rw [ec180]; exact (Nat.le_refl _)) (v := some (.int (1 : Int32))) (fun h => by rw [Bd.returns] at h; cases h)
            refine ⟨_, _, pre171 _ ?_, hrun, hended, _, _, rfl, ⟨rfl, N180⟩, hRW.1, hRW.2.1, hRW.2.2.1, hRW.2.2.2.mono (by decide) (by decide)⟩
            show Steps p.tables e below (T153.setTop (mkF m 176 #[.val (.int p1), .val (.int p2), .val (.int p3), .val (.int p4), .val (.int p5), .val (.ref b1), .val (.int y1), .val (.int y1), .val (.int y5), .val (.int y8), .val (.ref b146), .val (.ref b150), .val (.int y10), .unset, .unset, .unset] [(.int (2 : Int32)), (.int y10)])) _
            refine XS.icmpYes X153.here hx rfl (pc0 := 176) (pc' := 192) rfl (hb hby at_176) rfl (feq hf171).2 (by decide) (by decide) ?_
            show Steps p.tables e below (T153.setTop (mkF m 192 #[.val (.int p1), .val (.int p2), .val (.int p3), .val (.int p4), .val (.int p5), .val (.ref b1), .val (.int y1), .val (.int y1), .val (.int y5), .val (.int y8), .val (.ref b146), .val (.ref b150), .val (.int y10), .unset, .unset, .unset] [])) _
            refine XS.aload X153.here hx rfl (hb hby at_192) rfl rfl ?_
            refine XS.astore X153.here hx rfl (hb hby at_194) rfl rfl (l' := #[.val (.int p1), .val (.int p2), .val (.int p3), .val (.int p4), .val (.int p5), .val (.ref b1), .val (.int y1), .val (.int y1), .val (.int y5), .val (.int y8), .val (.ref b146), .val (.ref b150), .val (.int y10), .val (.ref b146), .unset, .unset]) rfl ?_
            refine XS.iconst X153.here hx rfl (hb hby at_196) ?_
            refine XS.istore X153.here hx rfl (hb hby at_197) rfl (l' := #[.val (.int p1), .val (.int p2), .val (.int p3), .val (.int p4), .val (.int p5), .val (.ref b1), .val (.int y1), .val (.int y1), .val (.int y5), .val (.int y8), .val (.ref b146), .val (.ref b150), .val (.int y10), .val (.ref b146), .val (.int (1 : Int32)), .unset]) rfl ?_
            show Steps p.tables e below (T153.setTop (mkF m 199 #[.val (.int p1), .val (.int p2), .val (.int p3), .val (.int p4), .val (.int p5), .val (.ref b1), .val (.int y1), .val (.int y1), .val (.int y5), .val (.int y8), .val (.ref b146), .val (.ref b150), .val (.int y10), .val (.ref b146), .val (.int (1 : Int32)), .unset] [])) _
            refine XS.aload X153.here hx rfl (hb hby at_199) rfl rfl ?_
            refine XS.aload X153.here hx rfl (hb hby at_201) rfl rfl ?_
            show Steps p.tables e below (T153.setTop (mkF m 203 #[.val (.int p1), .val (.int p2), .val (.int p3), .val (.int p4), .val (.int p5), .val (.ref b1), .val (.int y1), .val (.int y1), .val (.int y5), .val (.int y8), .val (.ref b146), .val (.ref b150), .val (.int y10), .val (.ref b146), .val (.int (1 : Int32)), .unset] [(.ref b146), (.ref b146)])) _
            refine st180.trans ?_
            show Steps p.tables e below (T180.setTop (mkF m 206 #[.val (.int p1), .val (.int p2), .val (.int p3), .val (.int p4), .val (.int p5), .val (.ref b1), .val (.int y1), .val (.int y1), .val (.int y5), .val (.int y8), .val (.ref b146), .val (.ref b150), .val (.int y10), .val (.ref b146), .val (.int (1 : Int32)), .unset] [(.int (1 : Int32))])) _
            refine XS.istore X180.here hx rfl (hb hby at_206) rfl (l' := #[.val (.int p1), .val (.int p2), .val (.int p3), .val (.int p4), .val (.int p5), .val (.ref b1), .val (.int y1), .val (.int y1), .val (.int y5), .val (.int y8), .val (.ref b146), .val (.ref b150), .val (.int y10), .val (.ref b146), .val (.int (1 : Int32)), .val (.int (1 : Int32))]) rfl ?_
            refine XS.iload X180.here hx rfl (hb hby at_208) rfl ?_
            refine XS.iload X180.here hx rfl (hb hby at_210) rfl ?_
            show Steps p.tables e below (T180.setTop (mkF m 212 #[.val (.int p1), .val (.int p2), .val (.int p3), .val (.int p4), .val (.int p5), .val (.ref b1), .val (.int y1), .val (.int y1), .val (.int y5), .val (.int y8), .val (.ref b146), .val (.ref b150), .val (.int y10), .val (.ref b146), .val (.int (1 : Int32)), .val (.int (1 : Int32))] [(.int (1 : Int32)), (.int (1 : Int32))])) _
            refine XS.icmpYes X180.here hx rfl (pc0 := 212) (pc' := 217) rfl (hb hby at_212) rfl (teq (rfl : (1 : Int32) = (1 : Int32))).1 (by decide) (by decide) ?_
            show Steps p.tables e below (T180.setTop (mkF m 217 #[.val (.int p1), .val (.int p2), .val (.int p3), .val (.int p4), .val (.int p5), .val (.ref b1), .val (.int y1), .val (.int y1), .val (.int y5), .val (.int y8), .val (.ref b146), .val (.ref b150), .val (.int y10), .val (.ref b146), .val (.int (1 : Int32)), .val (.int (1 : Int32))] [])) _
            refine XS.iload X180.here hx rfl (hb hby at_217) rfl ?_
            show Steps p.tables e below (T180.setTop (mkF m 219 #[.val (.int p1), .val (.int p2), .val (.int p3), .val (.int p4), .val (.int p5), .val (.ref b1), .val (.int y1), .val (.int y1), .val (.int y5), .val (.int y8), .val (.ref b146), .val (.ref b150), .val (.int y10), .val (.ref b146), .val (.int (1 : Int32)), .val (.int (1 : Int32))] [(.int y10)])) _
            refine XS.ifYes X180.here hx rfl (pc0 := 219) (pc' := 240) rfl (hb hby at_219) rfl ((if0 _ _).trans (feq hf154).2) (by decide) (by decide) ?_
            show Steps p.tables e below (T180.setTop (mkF m 240 #[.val (.int p1), .val (.int p2), .val (.int p3), .val (.int p4), .val (.int p5), .val (.ref b1), .val (.int y1), .val (.int y1), .val (.int y5), .val (.int y8), .val (.ref b146), .val (.ref b150), .val (.int y10), .val (.ref b146), .val (.int (1 : Int32)), .val (.int (1 : Int32))] [])) _
            refine XS.iconst X180.here hx rfl (hb hby at_240) ?_
            show Steps p.tables e below (T180.setTop (mkF m 241 #[.val (.int p1), .val (.int p2), .val (.int p3), .val (.int p4), .val (.int p5), .val (.ref b1), .val (.int y1), .val (.int y1), .val (.int y5), .val (.int y8), .val (.ref b146), .val (.ref b150), .val (.int y10), .val (.ref b146), .val (.int (1 : Int32)), .val (.int (1 : Int32))] [(.int (1 : Int32))])) _
            exact retN X180 hx (t := .boolean) Bd.returns (by simp) (hb hby at_241) hr
    · obtain ⟨T184, h184, X184, e184, E184, A184, D184, -, st184⟩ := newO X143 hx hZ hown (wd17 hw) (wd18 hw) (wd19 hw) ec143 (g := (mkF m 85 #[.val (.int p1), .val (.int p2), .val (.int p3), .val (.int p4), .val (.int p5), .val (.ref b1), .val (.int y1), .val (.int y1), .val (.int y5), .val (.int y5), .unset, .unset, .unset, .unset, .unset, .unset] [])) rfl (hb hby at_85) (by decide) (by decide)
      obtain ⟨b184, g184⟩ : ∃ z, z = h13.size := ⟨_, rfl⟩
      rw [← g184] at A184 D184 st184
      have g_b184 : n0 ≤ b184 := (Nat.le_trans (Nat.le_trans (Nat.le_of_eq OL13.1.symm) OL13.2.1) (Nat.le_of_eq g184.symm))
      have sz_b184 : h0.size ≤ b184 := (Nat.le_trans KK13.1 (Nat.le_of_eq g184.symm))
      have KK184 : Keep h0 h184 [] := KK13.ext E184
      have OL184 := OL13.ext E184
      have F_unit_b184 : Fld Z h184 b184 "com/example/larch/larch/model/Interval" "unit" "Lcom/example/larch/larch/model/IntervalUnit;" .null := D184 (Or.inr (wd39 hw)) (ty := (.object "com/example/larch/larch/model/IntervalUnit")) (by decide)
      have F_length_b184 : Fld Z h184 b184 "com/example/larch/larch/model/Interval" "length" "I" (.int (0 : Int32)) := D184 (Or.inr (wd41 hw)) (ty := .int) (by decide)
      have fc185 := (V13.ext E184)
      obtain ⟨cl186, Ar186, -, S186, -, Hs186, -⟩ := id fc185
      have hin186 : ¬ (y1 < 0 ∨ cl186.slots.size ≤ (y1).toNatClampNeg) := inb_of S186 ⟨pr17, pr18⟩
      have hat186 : cl186.slots[(y1).toNatClampNeg]? = some (.ref v1) := Hs186.at hin186 pr19
      obtain ⟨_, _, ⟨T187, L187, k187, n187⟩, -, Xa187, hSi187, hgr187, ⟨Lc187, hQ187, l187, y187, z187⟩, st187⟩ := X184.specialBackS hx (y := (⟨"com/example/larch/larch/model/Interval", "<init>", "(Lcom/example/larch/larch/model/IntervalUnit;I)V"⟩ : MethodName)) rfl hown (mvT hZ (wd20 hw)) (mvT hZ (wd21 hw)) (mvT hZ (wd22 hw)) (by decide) (backOfS (W := 1) (rm2_0 l Z a0 hw [] b184 v1 y5 h184 n0 OL184 pr20 A184 F_unit_b184 g_b184 F_length_b184) hZ (wd22 hw) (wd19 hw) (by decide) (by decide)) (g := (mkF m 96 #[.val (.int p1), .val (.int p2), .val (.int p3), .val (.int p4), .val (.int p5), .val (.ref b1), .val (.int y1), .val (.int y1), .val (.int y5), .val (.int y5), .unset, .unset, .unset, .unset, .unset, .unset] [(.int y5), (.ref v1), (.ref b184), (.ref b184)])) rfl (by rw [hml]; rfl) (Steps.refl _) (a := b184) (argsL := [(.ref v1), (.int y5)]) (rest := [(.ref b184)]) (lenOf pd_2 rfl) rfl (by show 2 * 0 + _ ≤ _; exact Nat.le_of_eq rfl) (hb hby at_96) (fun _ _ => ⟨rfl, e184, (by decide : 2 + 2 ≤ _), (by decide : 6 + 20 ≤ _)⟩)
      dsimp only [Pt.U, Pt.locs, Pt.cells, Pt.slots] at Xa187 l187 y187 z187 st187 hQ187 hSi187 hgr187
      subst l187 y187 z187
      obtain ⟨X187, hS187, hZ187, hown187⟩ := rebS (s := s) (vm0 := s.vm) ((State.WarmedH.refl s).since 0) (n1 := T184.heap.size) (by rw [e184]; exact (Nat.le_trans (Nat.le_trans (Nat.le_trans (Nat.le_trans (Nat.le_trans (Nat.le_trans (Nat.zero_le _) E1.1) (Nat.le_of_eq W4.size.symm)) (Nat.le_of_eq W7.size.symm)) (Nat.le_of_eq W10.size.symm)) (Nat.le_of_eq W13.size.symm)) E184.1)) Xa187 hSi187 hgr187 hZ hown
      obtain ⟨rfl, Nq187, K187, u187_0, u187_1⟩ := hQ187
      have KK187 : Keep h0 T187.heap [] := KK184.trans K187 (allS (Or.inr sz_b184) all0)
      have OL187 := OL184.keep K187 (allS g_b184 all0)
      have N187 := Fr.app N143 Nq187
      obtain ⟨T188, h188, X188, e188, E188, A188, D188, -, st188⟩ := newO X187 hx hZ187 hown187 (wd17 hw) (wd18 hw) (wd19 hw) rfl (g := (mkF m 101 #[.val (.int p1), .val (.int p2), .val (.int p3), .val (.int p4), .val (.int p5), .val (.ref b1), .val (.int y1), .val (.int y1), .val (.int y5), .val (.int y5), .val (.ref b184), .unset, .unset, .unset, .unset, .unset] [])) rfl (hb hby at_101) (by decide) (by decide)
      obtain ⟨b188, g188⟩ : ∃ z, z = T187.heap.size := ⟨_, rfl⟩
      rw [← g188] at A188 D188 st188
      have g_b188 : n0 ≤ b188 := (Nat.le_trans (Nat.le_trans (Nat.le_of_eq OL187.1.symm) OL187.2.1) (Nat.le_of_eq g188.symm))
      have sz_b188 : h0.size ≤ b188 := (Nat.le_trans KK187.1 (Nat.le_of_eq g188.symm))
      have KK188 : Keep h0 h188 [] := KK187.ext E188
      have OL188 := OL187.ext E188
      have F_unit_b188 : Fld Z h188 b188 "com/example/larch/larch/model/Interval" "unit" "Lcom/example/larch/larch/model/IntervalUnit;" .null := D188 (Or.inr (wd39 hw)) (ty := (.object "com/example/larch/larch/model/IntervalUnit")) (by decide)
      have F_length_b188 : Fld Z h188 b188 "com/example/larch/larch/model/Interval" "length" "I" (.int (0 : Int32)) := D188 (Or.inr (wd41 hw)) (ty := .int) (by decide)
      have fc189 := ((fc185.keep K187 (ninS (Nat.ne_of_lt (Nat.lt_of_lt_of_le V13.lt (Nat.le_of_eq g184.symm))) nin0)).ext E188)
      obtain ⟨cl190, Ar190, -, S190, -, Hs190, -⟩ := id fc189
      have hin190 : ¬ (y1 < 0 ∨ cl190.slots.size ≤ (y1).toNatClampNeg) := inb_of S190 ⟨pr17, pr18⟩
      have hat190 : cl190.slots[(y1).toNatClampNeg]? = some (.ref v1) := Hs190.at hin190 pr19
      obtain ⟨_, _, ⟨T191, L191, k191, n191⟩, -, Xa191, hSi191, hgr191, ⟨Lc191, hQ191, l191, y191, z191⟩, st191⟩ := X188.specialBackS hx (y := (⟨"com/example/larch/larch/model/Interval", "<init>", "(Lcom/example/larch/larch/model/IntervalUnit;I)V"⟩ : MethodName)) rfl hown187 (mvT hZ187 (wd20 hw)) (mvT hZ187 (wd21 hw)) (mvT hZ187 (wd22 hw)) (by decide) (backOfS (W := 1) (rm2_0 l Z a0 hw [] b188 v1 y5 h188 n0 OL188 pr20 A188 F_unit_b188 g_b188 F_length_b188) hZ187 (wd22 hw) (wd19 hw) (by decide) (by decide)) (g := (mkF m 112 #[.val (.int p1), .val (.int p2), .val (.int p3), .val (.int p4), .val (.int p5), .val (.ref b1), .val (.int y1), .val (.int y1), .val (.int y5), .val (.int y5), .val (.ref b184), .unset, .unset, .unset, .unset, .unset] [(.int y5), (.ref v1), (.ref b188), (.ref b188)])) rfl (by rw [hml]; rfl) (Steps.refl _) (a := b188) (argsL := [(.ref v1), (.int y5)]) (rest := [(.ref b188)]) (lenOf pd_2 rfl) rfl (by show 2 * 0 + _ ≤ _; exact Nat.le_of_eq rfl) (hb hby at_112) (fun _ _ => ⟨rfl, e188, (by decide : 5 + 2 ≤ _), (by decide : 28 + 20 ≤ _)⟩)
      dsimp only [Pt.U, Pt.locs, Pt.cells, Pt.slots] at Xa191 l191 y191 z191 st191 hQ191 hSi191 hgr191
      subst l191 y191 z191
      obtain ⟨X191, hS191, hZ191, hown191⟩ := rebS (s := s) (vm0 := T187.vm) hS187 (n1 := T188.heap.size) (by rw [e188]; exact (Nat.le_trans (Nat.le_refl _) E188.1)) Xa191 hSi191 hgr191 hZ187 hown187
      obtain ⟨rfl, Nq191, K191, u191_0, u191_1⟩ := hQ191
      have KK191 : Keep h0 T191.heap [] := KK188.trans K191 (allS (Or.inr sz_b188) all0)
      have OL191 := OL188.keep K191 (allS g_b188 all0)
      have N191 := Fr.app N187 Nq191
      have pre192 : ∀ t, Steps p.tables e below (T191.setTop (mkF m 127 #[.val (.int p1), .val (.int p2), .val (.int p3), .val (.int p4), .val (.int p5), .val (.ref b1), .val (.int y1), .val (.int y1), .val (.int y5), .val (.int y5), .val (.ref b184), .val (.ref b188), .val (.int y10), .unset, .unset, .unset] [(.int y10)])) t → Steps p.tables e below (s₁.setTop (entryFrame m #[(.int p1), (.int p2), (.int p3), (.int p4), (.int p5)] maxLocals)) t := by
        intro t kt
        refine pre144 _ ?_
        show Steps p.tables e below (T143.setTop (mkF m 67 #[.val (.int p1), .val (.int p2), .val (.int p3), .val (.int p4), .val (.int p5), .val (.ref b1), .val (.int y1), .val (.int y1), .val (.int y5), .unset, .unset, .unset, .unset, .unset, .unset, .unset] [(.int y6)])) _
        refine XS.ifNo X143.here hx rfl (hb hby at_67) rfl ((if0 _ _).trans (feq hf144).1) ?_
        show Steps p.tables e below (T143.setTop (mkF m 70 #[.val (.int p1), .val (.int p2), .val (.int p3), .val (.int p4), .val (.int p5), .val (.ref b1), .val (.int y1), .val (.int y1), .val (.int y5), .unset, .unset, .unset, .unset, .unset, .unset, .unset] [])) _
        refine XS.iload X143.here hx rfl (hb hby at_70) rfl ?_
        refine XS.goto X143.here hx rfl (pc0 := 72) (pc' := 83) rfl (hb hby at_72) (by decide) (by decide) ?_
        refine XS.istore X143.here hx rfl (hb hby at_83) rfl (l' := #[.val (.int p1), .val (.int p2), .val (.int p3), .val (.int p4), .val (.int p5), .val (.ref b1), .val (.int y1), .val (.int y1), .val (.int y5), .val (.int y5), .unset, .unset, .unset, .unset, .unset, .unset]) rfl ?_
        show Steps p.tables e below (T143.setTop (mkF m 85 #[.val (.int p1), .val (.int p2), .val (.int p3), .val (.int p4), .val (.int p5), .val (.ref b1), .val (.int y1), .val (.int y1), .val (.int y5), .val (.int y5), .unset, .unset, .unset, .unset, .unset, .unset] [])) _
        refine st184 _ ?_
        show Steps p.tables e below (T184.setTop (mkF m 88 #[.val (.int p1), .val (.int p2), .val (.int p3), .val (.int p4), .val (.int p5), .val (.ref b1), .val (.int y1), .val (.int y1), .val (.int y5), .val (.int y5), .unset, .unset, .unset, .unset, .unset, .unset] [(.ref b184)])) _
        refine XS.dup X184.here hx rfl (hb hby at_88) rfl rfl ?_
        refine XS.aload X184.here hx rfl (hb hby at_89) rfl rfl ?_
        refine XS.iload X184.here hx rfl (hb hby at_91) rfl ?_
        show Steps p.tables e below (T184.setTop (mkF m 93 #[.val (.int p1), .val (.int p2), .val (.int p3), .val (.int p4), .val (.int p5), .val (.ref b1), .val (.int y1), .val (.int y1), .val (.int y5), .val (.int y5), .unset, .unset, .unset, .unset, .unset, .unset] [(.int y1), (.ref b1), (.ref b184), (.ref b184)])) _
        refine X184.aaload hx (j := y1) (v := (.ref v1)) (by rw [e184]; exact Ar186.1) (State.isArrayOf_alike hZ.alike Ar186.2.1) rfl Ar186.2.2 hin186 hat186 (g := (mkF m 93 #[.val (.int p1), .val (.int p2), .val (.int p3), .val (.int p4), .val (.int p5), .val (.ref b1), .val (.int y1), .val (.int y1), .val (.int y5), .val (.int y5), .unset, .unset, .unset, .unset, .unset, .unset] [(.int y1), (.ref b1), (.ref b184), (.ref b184)])) rfl rfl (hb hby at_93) _ ?_
        show Steps p.tables e below (T184.setTop (mkF m 94 #[.val (.int p1), .val (.int p2), .val (.int p3), .val (.int p4), .val (.int p5), .val (.ref b1), .val (.int y1), .val (.int y1), .val (.int y5), .val (.int y5), .unset, .unset, .unset, .unset, .unset, .unset] [(.ref v1), (.ref b184), (.ref b184)])) _
        refine XS.iload X184.here hx rfl (hb hby at_94) rfl ?_
        show Steps p.tables e below (T184.setTop (mkF m 96 #[.val (.int p1), .val (.int p2), .val (.int p3), .val (.int p4), .val (.int p5), .val (.ref b1), .val (.int y1), .val (.int y1), .val (.int y5), .val (.int y5), .unset, .unset, .unset, .unset, .unset, .unset] [(.int y5), (.ref v1), (.ref b184), (.ref b184)])) _
        refine st187.trans ?_
        show Steps p.tables e below (T187.setTop (mkF m 99 #[.val (.int p1), .val (.int p2), .val (.int p3), .val (.int p4), .val (.int p5), .val (.ref b1), .val (.int y1), .val (.int y1), .val (.int y5), .val (.int y5), .unset, .unset, .unset, .unset, .unset, .unset] [(.ref b184)])) _
        refine XS.astore X187.here hx rfl (hb hby at_99) rfl rfl (l' := #[.val (.int p1), .val (.int p2), .val (.int p3), .val (.int p4), .val (.int p5), .val (.ref b1), .val (.int y1), .val (.int y1), .val (.int y5), .val (.int y5), .val (.ref b184), .unset, .unset, .unset, .unset, .unset]) rfl ?_
        show Steps p.tables e below (T187.setTop (mkF m 101 #[.val (.int p1), .val (.int p2), .val (.int p3), .val (.int p4), .val (.int p5), .val (.ref b1), .val (.int y1), .val (.int y1), .val (.int y5), .val (.int y5), .val (.ref b184), .unset, .unset, .unset, .unset, .unset] [])) _
        refine st188 _ ?_
        show Steps p.tables e below (T188.setTop (mkF m 104 #[.val (.int p1), .val (.int p2), .val (.int p3), .val (.int p4), .val (.int p5), .val (.ref b1), .val (.int y1), .val (.int y1), .val (.int y5), .val (.int y5), .val (.ref b184), .unset, .unset, .unset, .unset, .unset] [(.ref b188)])) _
        refine XS.dup X188.here hx rfl (hb hby at_104) rfl rfl ?_
        refine XS.aload X188.here hx rfl (hb hby at_105) rfl rfl ?_
        refine XS.iload X188.here hx rfl (hb hby at_107) rfl ?_
        show Steps p.tables e below (T188.setTop (mkF m 109 #[.val (.int p1), .val (.int p2), .val (.int p3), .val (.int p4), .val (.int p5), .val (.ref b1), .val (.int y1), .val (.int y1), .val (.int y5), .val (.int y5), .val (.ref b184), .unset, .unset, .unset, .unset, .unset] [(.int y1), (.ref b1), (.ref b188), (.ref b188)])) _
        refine X188.aaload hx (j := y1) (v := (.ref v1)) (by rw [e188]; exact Ar190.1) (State.isArrayOf_alike hZ187.alike Ar190.2.1) rfl Ar190.2.2 hin190 hat190 (g := (mkF m 109 #[.val (.int p1), .val (.int p2), .val (.int p3), .val (.int p4), .val (.int p5), .val (.ref b1), .val (.int y1), .val (.int y1), .val (.int y5), .val (.int y5), .val (.ref b184), .unset, .unset, .unset, .unset, .unset] [(.int y1), (.ref b1), (.ref b188), (.ref b188)])) rfl rfl (hb hby at_109) _ ?_
        show Steps p.tables e below (T188.setTop (mkF m 110 #[.val (.int p1), .val (.int p2), .val (.int p3), .val (.int p4), .val (.int p5), .val (.ref b1), .val (.int y1), .val (.int y1), .val (.int y5), .val (.int y5), .val (.ref b184), .unset, .unset, .unset, .unset, .unset] [(.ref v1), (.ref b188), (.ref b188)])) _
        refine XS.iload X188.here hx rfl (hb hby at_110) rfl ?_
        show Steps p.tables e below (T188.setTop (mkF m 112 #[.val (.int p1), .val (.int p2), .val (.int p3), .val (.int p4), .val (.int p5), .val (.ref b1), .val (.int y1), .val (.int y1), .val (.int y5), .val (.int y5), .val (.ref b184), .unset, .unset, .unset, .unset, .unset] [(.int y5), (.ref v1), (.ref b188), (.ref b188)])) _
        refine st191.trans ?_
        show Steps p.tables e below (T191.setTop (mkF m 115 #[.val (.int p1), .val (.int p2), .val (.int p3), .val (.int p4), .val (.int p5), .val (.ref b1), .val (.int y1), .val (.int y1), .val (.int y5), .val (.int y5), .val (.ref b184), .unset, .unset, .unset, .unset, .unset] [(.ref b188)])) _
        refine XS.astore X191.here hx rfl (hb hby at_115) rfl rfl (l' := #[.val (.int p1), .val (.int p2), .val (.int p3), .val (.int p4), .val (.int p5), .val (.ref b1), .val (.int y1), .val (.int y1), .val (.int y5), .val (.int y5), .val (.ref b184), .val (.ref b188), .unset, .unset, .unset, .unset]) rfl ?_
        refine XS.iload X191.here hx rfl (hb hby at_117) rfl ?_
        refine XS.iconst X191.here hx rfl (hb hby at_119) ?_
        show Steps p.tables e below (T191.setTop (mkF m 120 #[.val (.int p1), .val (.int p2), .val (.int p3), .val (.int p4), .val (.int p5), .val (.ref b1), .val (.int y1), .val (.int y1), .val (.int y5), .val (.int y5), .val (.ref b184), .val (.ref b188), .unset, .unset, .unset, .unset] [(.int (1 : Int32)), (.int p5)])) _
        refine XS.iushr X191.here hx rfl (hb hby at_120) rfl ?_
        show Steps p.tables e below (T191.setTop (mkF m 121 #[.val (.int p1), .val (.int p2), .val (.int p3), .val (.int p4), .val (.int p5), .val (.ref b1), .val (.int y1), .val (.int y1), .val (.int y5), .val (.int y5), .val (.ref b184), .val (.ref b188), .unset, .unset, .unset, .unset] [(.int ((p5.toUInt32 >>> ((1 : Int32) &&& 31).toUInt32).toInt32))])) _
        rw [pr24]
        show Steps p.tables e below (T191.setTop (mkF m 121 #[.val (.int p1), .val (.int p2), .val (.int p3), .val (.int p4), .val (.int p5), .val (.ref b1), .val (.int y1), .val (.int y1), .val (.int y5), .val (.int y5), .val (.ref b184), .val (.ref b188), .unset, .unset, .unset, .unset] [(.int y9)])) _
        refine XS.iconst X191.here hx rfl (hb hby at_121) ?_
        show Steps p.tables e below (T191.setTop (mkF m 122 #[.val (.int p1), .val (.int p2), .val (.int p3), .val (.int p4), .val (.int p5), .val (.ref b1), .val (.int y1), .val (.int y1), .val (.int y5), .val (.int y5), .val (.ref b184), .val (.ref b188), .unset, .unset, .unset, .unset] [(.int (3 : Int32)), (.int y9)])) _
        refine XS.iand X191.here hx rfl (hb hby at_122) rfl ?_
        show Steps p.tables e below (T191.setTop (mkF m 123 #[.val (.int p1), .val (.int p2), .val (.int p3), .val (.int p4), .val (.int p5), .val (.ref b1), .val (.int y1), .val (.int y1), .val (.int y5), .val (.int y5), .val (.ref b184), .val (.ref b188), .unset, .unset, .unset, .unset] [(.int (y9 &&& (3 : Int32)))])) _
        rw [pr25]
        show Steps p.tables e below (T191.setTop (mkF m 123 #[.val (.int p1), .val (.int p2), .val (.int p3), .val (.int p4), .val (.int p5), .val (.ref b1), .val (.int y1), .val (.int y1), .val (.int y5), .val (.int y5), .val (.ref b184), .val (.ref b188), .unset, .unset, .unset, .unset] [(.int y10)])) _
        refine XS.istore X191.here hx rfl (hb hby at_123) rfl (l' := #[.val (.int p1), .val (.int p2), .val (.int p3), .val (.int p4), .val (.int p5), .val (.ref b1), .val (.int y1), .val (.int y1), .val (.int y5), .val (.int y5), .val (.ref b184), .val (.ref b188), .val (.int y10), .unset, .unset, .unset]) rfl ?_
        refine XS.iload X191.here hx rfl (hb hby at_125) rfl ?_
        exact kt
      by_cases hf192 : y10 = (0 : Int32)
      · have fc194 := (A188.keep K191)
        have fc195 := ((u187_0.ext E188).keep K191 (ninS (Nat.ne_of_lt (Nat.lt_of_lt_of_le u187_1.lt (Nat.le_of_eq g188.symm))) nin0))
        have fc196 := ((u187_1.ext E188).keep K191 (ninS (Nat.ne_of_lt (Nat.lt_of_lt_of_le u187_1.lt (Nat.le_of_eq g188.symm))) nin0))
        have fc197 := (((A184.keep K187).ext E188).keep K191)
        obtain ⟨cq193, kq193, q193a, q193b, q193c⟩ := isOf hZ191 rfl fc197
        obtain ⟨_, _, ⟨T193, L193, k193, n193⟩, -, X193, ⟨Lc193, hQ193, l193, y193, z193⟩, st193⟩ := X191.virtualBack hx (y := (⟨"com/example/larch/larch/model/Interval", "equals", "(Ljava/lang/Object;)Z"⟩ : MethodName)) (z := (⟨"com/example/larch/larch/model/Interval", "equals", "(Ljava/lang/Object;)Z"⟩ : MethodName)) hown191 (mvT hZ191 (wd42 hw)) (mvT hZ191 (wd43 hw)) (notFace_of_selects (args := #[]) (mvT hZ191 (wd45 hw))) (mvT hZ191 (wd45 hw)) (mvT hZ191 (wd44 hw)) (by decide) (backOf (W := 0) (rm5_7 l Z a0 hw [] b184 b188 v1 y5 T191.heap n0 OL191 fc194 fc195 u191_0 fc196 u191_1) hZ191 (wd46 hw) (wd19 hw) (by decide) (by decide)) q193a q193c (g := (mkF m 203 #[.val (.int p1), .val (.int p2), .val (.int p3), .val (.int p4), .val (.int p5), .val (.ref b1), .val (.int y1), .val (.int y1), .val (.int y5), .val (.int y5), .val (.ref b184), .val (.ref b188), .val (.int y10), .val (.ref b188), .val (.int (1 : Int32)), .unset] [(.ref b188), (.ref b184)])) rfl (by rw [hml]; rfl) (Steps.refl _) (argsL := [(.ref b188)]) (rest := []) (lenOf pd_3 rfl) rfl (by show 2 * 0 + _ ≤ _; exact Nat.le_of_eq rfl) (hb hby at_203) (fun _ _ => ⟨rfl, rfl, (by decide : 7 + 0 ≤ _), (by decide : 48 + 0 ≤ _)⟩)
        dsimp only [Pt.U, Pt.locs, Pt.cells, Pt.slots] at X193 l193 y193 z193 st193 hQ193
        subst l193 y193 z193
        obtain ⟨rfl, Nq193, ec193⟩ := hQ193
        have N193 := Fr.app N191 Nq193
        obtain ⟨cq198, kq198, q198a, q198b, q198c⟩ := isOf hZ191 ec193 fc194
        obtain ⟨_, _, ⟨T198, L198, k198, n198⟩, -, X198, ⟨Lc198, hQ198, l198, y198, z198⟩, st198⟩ := X193.virtualBack hx (y := (⟨"com/example/larch/larch/model/Interval", "equals", "(Ljava/lang/Object;)Z"⟩ : MethodName)) (z := (⟨"com/example/larch/larch/model/Interval", "equals", "(Ljava/lang/Object;)Z"⟩ : MethodName)) hown191 (mvT hZ191 (wd42 hw)) (mvT hZ191 (wd43 hw)) (notFace_of_selects (args := #[]) (mvT hZ191 (wd45 hw))) (mvT hZ191 (wd45 hw)) (mvT hZ191 (wd44 hw)) (by decide) (backOf (W := 0) (rm5_7 l Z a0 hw [] b188 b184 v1 y5 T191.heap n0 OL191 fc197 u191_0 fc195 u191_1 fc196) hZ191 (wd46 hw) (wd19 hw) (by decide) (by decide)) q198a q198c (g := (mkF m 226 #[.val (.int p1), .val (.int p2), .val (.int p3), .val (.int p4), .val (.int p5), .val (.ref b1), .val (.int y1), .val (.int y1), .val (.int y5), .val (.int y5), .val (.ref b184), .val (.ref b188), .val (.int y10), .val (.ref b188), .val (.int (1 : Int32)), .val (.int (1 : Int32))] [(.ref b184), (.ref b188)])) rfl (by rw [hml]; rfl) (Steps.refl _) (argsL := [(.ref b184)]) (rest := []) (lenOf pd_3 rfl) rfl (by show 2 * 0 + _ ≤ _; exact Nat.le_of_eq rfl) (hb hby at_226) (fun _ _ => ⟨rfl, ec193, (by decide : 7 + 0 ≤ _), (by decide : 48 + 0 ≤ _)⟩)
        dsimp only [Pt.U, Pt.locs, Pt.cells, Pt.slots] at X198 l198 y198 z198 st198 hQ198
        subst l198 y198 z198
        obtain ⟨rfl, Nq198, ec198⟩ := hQ198
        have N198 := Fr.app N193 Nq198
        obtain ⟨fs, hr, hrun, hended, hRW⟩ := X198.leaveW (s := s) hS191 (by rw [ec198]; exact (Nat.le_refl _)) (v := some (.int (1 : Int32))) (fun h => by rw [Bd.returns] at h; cases h)
        refine ⟨_, _, pre192 _ ?_, hrun, hended, _, _, rfl, ⟨rfl, N198⟩, hRW.1, hRW.2.1, hRW.2.2.1, hRW.2.2.2.mono (by decide) (by decide)⟩
        show Steps p.tables e below (T191.setTop (mkF m 127 #[.val (.int p1), .val (.int p2), .val (.int p3), .val (.int p4), .val (.int p5), .val (.ref b1), .val (.int y1), .val (.int y1), .val (.int y5), .val (.int y5), .val (.ref b184), .val (.ref b188), .val (.int y10), .unset, .unset, .unset] [(.int y10)])) _
        refine XS.ifNo X191.here hx rfl (hb hby at_127) rfl ((if0 _ _).trans (teq hf192).2) ?_
        show Steps p.tables e below (T191.setTop (mkF m 130 #[.val (.int p1), .val (.int p2), .val (.int p3), .val (.int p4), .val (.int p5), .val (.ref b1), .val (.int y1), .val (.int y1), .val (.int y5), .val (.int y5), .val (.ref b184), .val (.ref b188), .val (.int y10), .unset, .unset, .unset] [])) _
        refine XS.aload X191.here hx rfl (hb hby at_130) rfl rfl ?_
        refine XS.astore X191.here hx rfl (hb hby at_132) rfl rfl (l' := #[.val (.int p1), .val (.int p2), .val (.int p3), .val (.int p4), .val (.int p5), .val (.ref b1), .val (.int y1), .val (.int y1), .val (.int y5), .val (.int y5), .val (.ref b184), .val (.ref b188), .val (.int y10), .val (.ref b188), .unset, .unset]) rfl ?_
        refine XS.iload X191.here hx rfl (hb hby at_134) rfl ?_
        refine XS.iload X191.here hx rfl (hb hby at_136) rfl ?_
        show Steps p.tables e below (T191.setTop (mkF m 138 #[.val (.int p1), .val (.int p2), .val (.int p3), .val (.int p4), .val (.int p5), .val (.ref b1), .val (.int y1), .val (.int y1), .val (.int y5), .val (.int y5), .val (.ref b184), .val (.ref b188), .val (.int y10), .val (.ref b188), .unset, .unset] [(.int y1), (.int y1)])) _
        refine XS.icmpNo X191.here hx rfl (hb hby at_138) rfl (teq (rfl : y1 = y1)).2 ?_
        show Steps p.tables e below (T191.setTop (mkF m 141 #[.val (.int p1), .val (.int p2), .val (.int p3), .val (.int p4), .val (.int p5), .val (.ref b1), .val (.int y1), .val (.int y1), .val (.int y5), .val (.int y5), .val (.ref b184), .val (.ref b188), .val (.int y10), .val (.ref b188), .unset, .unset] [])) _
        refine XS.iload X191.here hx rfl (hb hby at_141) rfl ?_
        refine XS.iload X191.here hx rfl (hb hby at_143) rfl ?_
        show Steps p.tables e below (T191.setTop (mkF m 145 #[.val (.int p1), .val (.int p2), .val (.int p3), .val (.int p4), .val (.int p5), .val (.ref b1), .val (.int y1), .val (.int y1), .val (.int y5), .val (.int y5), .val (.ref b184), .val (.ref b188), .val (.int y10), .val (.ref b188), .unset, .unset] [(.int y5), (.int y5)])) _
        refine XS.icmpNo X191.here hx rfl (hb hby at_145) rfl (teq (rfl : y5 = y5)).2 ?_
        show Steps p.tables e below (T191.setTop (mkF m 148 #[.val (.int p1), .val (.int p2), .val (.int p3), .val (.int p4), .val (.int p5), .val (.ref b1), .val (.int y1), .val (.int y1), .val (.int y5), .val (.int y5), .val (.ref b184), .val (.ref b188), .val (.int y10), .val (.ref b188), .unset, .unset] [])) _
        refine XS.iconst X191.here hx rfl (hb hby at_148) ?_
        refine XS.goto X191.here hx rfl (pc0 := 149) (pc' := 153) rfl (hb hby at_149) (by decide) (by decide) ?_
        refine XS.istore X191.here hx rfl (hb hby at_153) rfl (l' := #[.val (.int p1), .val (.int p2), .val (.int p3), .val (.int p4), .val (.int p5), .val (.ref b1), .val (.int y1), .val (.int y1), .val (.int y5), .val (.int y5), .val (.ref b184), .val (.ref b188), .val (.int y10), .val (.ref b188), .val (.int (1 : Int32)), .unset]) rfl ?_
        refine XS.goto X191.here hx rfl (pc0 := 155) (pc' := 199) rfl (hb hby at_155) (by decide) (by decide) ?_
        show Steps p.tables e below (T191.setTop (mkF m 199 #[.val (.int p1), .val (.int p2), .val (.int p3), .val (.int p4), .val (.int p5), .val (.ref b1), .val (.int y1), .val (.int y1), .val (.int y5), .val (.int y5), .val (.ref b184), .val (.ref b188), .val (.int y10), .val (.ref b188), .val (.int (1 : Int32)), .unset] [])) _
        refine XS.aload X191.here hx rfl (hb hby at_199) rfl rfl ?_
        refine XS.aload X191.here hx rfl (hb hby at_201) rfl rfl ?_
        show Steps p.tables e below (T191.setTop (mkF m 203 #[.val (.int p1), .val (.int p2), .val (.int p3), .val (.int p4), .val (.int p5), .val (.ref b1), .val (.int y1), .val (.int y1), .val (.int y5), .val (.int y5), .val (.ref b184), .val (.ref b188), .val (.int y10), .val (.ref b188), .val (.int (1 : Int32)), .unset] [(.ref b188), (.ref b184)])) _
        refine st193.trans ?_
        show Steps p.tables e below (T193.setTop (mkF m 206 #[.val (.int p1), .val (.int p2), .val (.int p3), .val (.int p4), .val (.int p5), .val (.ref b1), .val (.int y1), .val (.int y1), .val (.int y5), .val (.int y5), .val (.ref b184), .val (.ref b188), .val (.int y10), .val (.ref b188), .val (.int (1 : Int32)), .unset] [(.int (1 : Int32))])) _
        refine XS.istore X193.here hx rfl (hb hby at_206) rfl (l' := #[.val (.int p1), .val (.int p2), .val (.int p3), .val (.int p4), .val (.int p5), .val (.ref b1), .val (.int y1), .val (.int y1), .val (.int y5), .val (.int y5), .val (.ref b184), .val (.ref b188), .val (.int y10), .val (.ref b188), .val (.int (1 : Int32)), .val (.int (1 : Int32))]) rfl ?_
        refine XS.iload X193.here hx rfl (hb hby at_208) rfl ?_
        refine XS.iload X193.here hx rfl (hb hby at_210) rfl ?_
        show Steps p.tables e below (T193.setTop (mkF m 212 #[.val (.int p1), .val (.int p2), .val (.int p3), .val (.int p4), .val (.int p5), .val (.ref b1), .val (.int y1), .val (.int y1), .val (.int y5), .val (.int y5), .val (.ref b184), .val (.ref b188), .val (.int y10), .val (.ref b188), .val (.int (1 : Int32)), .val (.int (1 : Int32))] [(.int (1 : Int32)), (.int (1 : Int32))])) _
        refine XS.icmpYes X193.here hx rfl (pc0 := 212) (pc' := 217) rfl (hb hby at_212) rfl (teq (rfl : (1 : Int32) = (1 : Int32))).1 (by decide) (by decide) ?_
        show Steps p.tables e below (T193.setTop (mkF m 217 #[.val (.int p1), .val (.int p2), .val (.int p3), .val (.int p4), .val (.int p5), .val (.ref b1), .val (.int y1), .val (.int y1), .val (.int y5), .val (.int y5), .val (.ref b184), .val (.ref b188), .val (.int y10), .val (.ref b188), .val (.int (1 : Int32)), .val (.int (1 : Int32))] [])) _
        refine XS.iload X193.here hx rfl (hb hby at_217) rfl ?_
        show Steps p.tables e below (T193.setTop (mkF m 219 #[.val (.int p1), .val (.int p2), .val (.int p3), .val (.int p4), .val (.int p5), .val (.ref b1), .val (.int y1), .val (.int y1), .val (.int y5), .val (.int y5), .val (.ref b184), .val (.ref b188), .val (.int y10), .val (.ref b188), .val (.int (1 : Int32)), .val (.int (1 : Int32))] [(.int y10)])) _
        refine XS.ifNo X193.here hx rfl (hb hby at_219) rfl ((if0 _ _).trans (teq hf192).2) ?_
        show Steps p.tables e below (T193.setTop (mkF m 222 #[.val (.int p1), .val (.int p2), .val (.int p3), .val (.int p4), .val (.int p5), .val (.ref b1), .val (.int y1), .val (.int y1), .val (.int y5), .val (.int y5), .val (.ref b184), .val (.ref b188), .val (.int y10), .val (.ref b188), .val (.int (1 : Int32)), .val (.int (1 : Int32))] [])) _
        refine XS.aload X193.here hx rfl (hb hby at_222) rfl rfl ?_
        refine XS.aload X193.here hx rfl (hb hby at_224) rfl rfl ?_
        show Steps p.tables e below (T193.setTop (mkF m 226 #[.val (.int p1), .val (.int p2), .val (.int p3), .val (.int p4), .val (.int p5), .val (.ref b1), .val (.int y1), .val (.int y1), .val (.int y5), .val (.int y5), .val (.ref b184), .val (.ref b188), .val (.int y10), .val (.ref b188), .val (.int (1 : Int32)), .val (.int (1 : Int32))] [(.ref b184), (.ref b188)])) _
        refine st198.trans ?_
        show Steps p.tables e below (T198.setTop (mkF m 229 #[.val (.int p1), .val (.int p2), .val (.int p3), .val (.int p4), .val (.int p5), .val (.ref b1), .val (.int y1), .val (.int y1), .val (.int y5), .val (.int y5), .val (.ref b184), .val (.ref b188), .val (.int y10), .val (.ref b188), .val (.int (1 : Int32)), .val (.int (1 : Int32))] [(.int (1 : Int32))])) _
        refine XS.iload X198.here hx rfl (hb hby at_229) rfl ?_
        show Steps p.tables e below (T198.setTop (mkF m 231 #[.val (.int p1), .val (.int p2), .val (.int p3), .val (.int p4), .val (.int p5), .val (.ref b1), .val (.int y1), .val (.int y1), .val (.int y5), .val (.int y5), .val (.ref b184), .val (.ref b188), .val (.int y10), .val (.ref b188), .val (.int (1 : Int32)), .val (.int (1 : Int32))] [(.int (1 : Int32)), (.int (1 : Int32))])) _
        refine XS.icmpNo X198.here hx rfl (hb hby at_231) rfl (teq (rfl : (1 : Int32) = (1 : Int32))).2 ?_
        show Steps p.tables e below (T198.setTop (mkF m 234 #[.val (.int p1), .val (.int p2), .val (.int p3), .val (.int p4), .val (.int p5), .val (.ref b1), .val (.int y1), .val (.int y1), .val (.int y5), .val (.int y5), .val (.ref b184), .val (.ref b188), .val (.int y10), .val (.ref b188), .val (.int (1 : Int32)), .val (.int (1 : Int32))] [])) _
        refine XS.iconst X198.here hx rfl (hb hby at_234) ?_
        refine XS.goto X198.here hx rfl (pc0 := 235) (pc' := 239) rfl (hb hby at_235) (by decide) (by decide) ?_
        show Steps p.tables e below (T198.setTop (mkF m 239 #[.val (.int p1), .val (.int p2), .val (.int p3), .val (.int p4), .val (.int p5), .val (.ref b1), .val (.int y1), .val (.int y1), .val (.int y5), .val (.int y5), .val (.ref b184), .val (.ref b188), .val (.int y10), .val (.ref b188), .val (.int (1 : Int32)), .val (.int (1 : Int32))] [(.int (1 : Int32))])) _
        exact retN X198 hx (t := .boolean) Bd.returns (by simp) (hb hby at_239) hr
      · have pre199 : ∀ t, Steps p.tables e below (T191.setTop (mkF m 161 #[.val (.int p1), .val (.int p2), .val (.int p3), .val (.int p4), .val (.int p5), .val (.ref b1), .val (.int y1), .val (.int y1), .val (.int y5), .val (.int y5), .val (.ref b184), .val (.ref b188), .val (.int y10), .unset, .unset, .unset] [(.int (1 : Int32)), (.int y10)])) t → Steps p.tables e below (s₁.setTop (entryFrame m #[(.int p1), (.int p2), (.int p3), (.int p4), (.int p5)] maxLocals)) t := by
          intro t kt
          refine pre192 _ ?_
          show Steps p.tables e below (T191.setTop (mkF m 127 #[.val (.int p1), .val (.int p2), .val (.int p3), .val (.int p4), .val (.int p5), .val (.ref b1), .val (.int y1), .val (.int y1), .val (.int y5), .val (.int y5), .val (.ref b184), .val (.ref b188), .val (.int y10), .unset, .unset, .unset] [(.int y10)])) _
          refine XS.ifYes X191.here hx rfl (pc0 := 127) (pc' := 158) rfl (hb hby at_127) rfl ((if0 _ _).trans (feq hf192).2) (by decide) (by decide) ?_
          show Steps p.tables e below (T191.setTop (mkF m 158 #[.val (.int p1), .val (.int p2), .val (.int p3), .val (.int p4), .val (.int p5), .val (.ref b1), .val (.int y1), .val (.int y1), .val (.int y5), .val (.int y5), .val (.ref b184), .val (.ref b188), .val (.int y10), .unset, .unset, .unset] [])) _
          refine XS.iload X191.here hx rfl (hb hby at_158) rfl ?_
          refine XS.iconst X191.here hx rfl (hb hby at_160) ?_
          exact kt
        by_cases hf199 : y10 = (1 : Int32)
        · have fc201 := (((A184.keep K187).ext E188).keep K191)
          obtain ⟨cq200, kq200, q200a, q200b, q200c⟩ := isOf hZ191 rfl fc201
          obtain ⟨_, _, ⟨T200, L200, k200, n200⟩, -, X200, ⟨Lc200, hQ200, l200, y200, z200⟩, st200⟩ := X191.virtualBack hx (y := (⟨"com/example/larch/larch/model/Interval", "equals", "(Ljava/lang/Object;)Z"⟩ : MethodName)) (z := (⟨"com/example/larch/larch/model/Interval", "equals", "(Ljava/lang/Object;)Z"⟩ : MethodName)) hown191 (mvT hZ191 (wd42 hw)) (mvT hZ191 (wd43 hw)) (notFace_of_selects (args := #[]) (mvT hZ191 (wd45 hw))) (mvT hZ191 (wd45 hw)) (mvT hZ191 (wd44 hw)) (by decide) (backOf (W := 0) (rm5_2 l Z a0 hw [] b184 T191.heap n0 OL191 ) hZ191 (wd46 hw) (wd19 hw) (by decide) (by decide)) q200a q200c (g := (mkF m 203 #[.val (.int p1), .val (.int p2), .val (.int p3), .val (.int p4), .val (.int p5), .val (.ref b1), .val (.int y1), .val (.int y1), .val (.int y5), .val (.int y5), .val (.ref b184), .val (.ref b188), .val (.int y10), .val .null, .val (.int (0 : Int32)), .unset] [.null, (.ref b184)])) rfl (by rw [hml]; rfl) (Steps.refl _) (argsL := [.null]) (rest := []) (lenOf pd_3 rfl) rfl (by show 2 * 0 + _ ≤ _; exact Nat.le_of_eq rfl) (hb hby at_203) (fun _ _ => ⟨rfl, rfl, (by decide : 7 + 0 ≤ _), (by decide : 48 + 0 ≤ _)⟩)
          dsimp only [Pt.U, Pt.locs, Pt.cells, Pt.slots] at X200 l200 y200 z200 st200 hQ200
          subst l200 y200 z200
          obtain ⟨rfl, Nq200, ec200⟩ := hQ200
          have N200 := Fr.app N191 Nq200
          obtain ⟨fs, hr, hrun, hended, hRW⟩ := X200.leaveW (s := s) hS191 (by rw [ec200]; exact (Nat.le_refl _)) (v := some (.int (1 : Int32))) (fun h => by rw [Bd.returns] at h; cases h)
          refine ⟨_, _, pre199 _ ?_, hrun, hended, _, _, rfl, ⟨rfl, N200⟩, hRW.1, hRW.2.1, hRW.2.2.1, hRW.2.2.2.mono (by decide) (by decide)⟩
          show Steps p.tables e below (T191.setTop (mkF m 161 #[.val (.int p1), .val (.int p2), .val (.int p3), .val (.int p4), .val (.int p5), .val (.ref b1), .val (.int y1), .val (.int y1), .val (.int y5), .val (.int y5), .val (.ref b184), .val (.ref b188), .val (.int y10), .unset, .unset, .unset] [(.int (1 : Int32)), (.int y10)])) _
          refine XS.icmpNo X191.here hx rfl (hb hby at_161) rfl (teq hf199).2 ?_
          show Steps p.tables e below (T191.setTop (mkF m 164 #[.val (.int p1), .val (.int p2), .val (.int p3), .val (.int p4), .val (.int p5), .val (.ref b1), .val (.int y1), .val (.int y1), .val (.int y5), .val (.int y5), .val (.ref b184), .val (.ref b188), .val (.int y10), .unset, .unset, .unset] [])) _
          refine XS.aconstNull X191.here hx rfl (hb hby at_164) ?_
          refine XS.astore X191.here hx rfl (hb hby at_165) rfl rfl (l' := #[.val (.int p1), .val (.int p2), .val (.int p3), .val (.int p4), .val (.int p5), .val (.ref b1), .val (.int y1), .val (.int y1), .val (.int y5), .val (.int y5), .val (.ref b184), .val (.ref b188), .val (.int y10), .val .null, .unset, .unset]) rfl ?_
          refine XS.iconst X191.here hx rfl (hb hby at_167) ?_
          refine XS.istore X191.here hx rfl (hb hby at_168) rfl (l' := #[.val (.int p1), .val (.int p2), .val (.int p3), .val (.int p4), .val (.int p5), .val (.ref b1), .val (.int y1), .val (.int y1), .val (.int y5), .val (.int y5), .val (.ref b184), .val (.ref b188), .val (.int y10), .val .null, .val (.int (0 : Int32)), .unset]) rfl ?_
          show Steps p.tables e below (T191.setTop (mkF m 170 #[.val (.int p1), .val (.int p2), .val (.int p3), .val (.int p4), .val (.int p5), .val (.ref b1), .val (.int y1), .val (.int y1), .val (.int y5), .val (.int y5), .val (.ref b184), .val (.ref b188), .val (.int y10), .val .null, .val (.int (0 : Int32)), .unset] [])) _
          refine XS.goto X191.here hx rfl (pc0 := 170) (pc' := 199) rfl (hb hby at_170) (by decide) (by decide) ?_
          refine XS.aload X191.here hx rfl (hb hby at_199) rfl rfl ?_
          refine XS.aload X191.here hx rfl (hb hby at_201) rfl rfl ?_
          show Steps p.tables e below (T191.setTop (mkF m 203 #[.val (.int p1), .val (.int p2), .val (.int p3), .val (.int p4), .val (.int p5), .val (.ref b1), .val (.int y1), .val (.int y1), .val (.int y5), .val (.int y5), .val (.ref b184), .val (.ref b188), .val (.int y10), .val .null, .val (.int (0 : Int32)), .unset] [.null, (.ref b184)])) _
          refine st200.trans ?_
          show Steps p.tables e below (T200.setTop (mkF m 206 #[.val (.int p1), .val (.int p2), .val (.int p3), .val (.int p4), .val (.int p5), .val (.ref b1), .val (.int y1), .val (.int y1), .val (.int y5), .val (.int y5), .val (.ref b184), .val (.ref b188), .val (.int y10), .val .null, .val (.int (0 : Int32)), .unset] [(.int (0 : Int32))])) _
          refine XS.istore X200.here hx rfl (hb hby at_206) rfl (l' := #[.val (.int p1), .val (.int p2), .val (.int p3), .val (.int p4), .val (.int p5), .val (.ref b1), .val (.int y1), .val (.int y1), .val (.int y5), .val (.int y5), .val (.ref b184), .val (.ref b188), .val (.int y10), .val .null, .val (.int (0 : Int32)), .val (.int (0 : Int32))]) rfl ?_
          refine XS.iload X200.here hx rfl (hb hby at_208) rfl ?_
          refine XS.iload X200.here hx rfl (hb hby at_210) rfl ?_
          show Steps p.tables e below (T200.setTop (mkF m 212 #[.val (.int p1), .val (.int p2), .val (.int p3), .val (.int p4), .val (.int p5), .val (.ref b1), .val (.int y1), .val (.int y1), .val (.int y5), .val (.int y5), .val (.ref b184), .val (.ref b188), .val (.int y10), .val .null, .val (.int (0 : Int32)), .val (.int (0 : Int32))] [(.int (0 : Int32)), (.int (0 : Int32))])) _
          refine XS.icmpYes X200.here hx rfl (pc0 := 212) (pc' := 217) rfl (hb hby at_212) rfl (teq (rfl : (0 : Int32) = (0 : Int32))).1 (by decide) (by decide) ?_
          show Steps p.tables e below (T200.setTop (mkF m 217 #[.val (.int p1), .val (.int p2), .val (.int p3), .val (.int p4), .val (.int p5), .val (.ref b1), .val (.int y1), .val (.int y1), .val (.int y5), .val (.int y5), .val (.ref b184), .val (.ref b188), .val (.int y10), .val .null, .val (.int (0 : Int32)), .val (.int (0 : Int32))] [])) _
          refine XS.iload X200.here hx rfl (hb hby at_217) rfl ?_
          show Steps p.tables e below (T200.setTop (mkF m 219 #[.val (.int p1), .val (.int p2), .val (.int p3), .val (.int p4), .val (.int p5), .val (.ref b1), .val (.int y1), .val (.int y1), .val (.int y5), .val (.int y5), .val (.ref b184), .val (.ref b188), .val (.int y10), .val .null, .val (.int (0 : Int32)), .val (.int (0 : Int32))] [(.int y10)])) _
          refine XS.ifYes X200.here hx rfl (pc0 := 219) (pc' := 240) rfl (hb hby at_219) rfl ((if0 _ _).trans (feq hf192).2) (by decide) (by decide) ?_
          show Steps p.tables e below (T200.setTop (mkF m 240 #[.val (.int p1), .val (.int p2), .val (.int p3), .val (.int p4), .val (.int p5), .val (.ref b1), .val (.int y1), .val (.int y1), .val (.int y5), .val (.int y5), .val (.ref b184), .val (.ref b188), .val (.int y10), .val .null, .val (.int (0 : Int32)), .val (.int (0 : Int32))] [])) _
          refine XS.iconst X200.here hx rfl (hb hby at_240) ?_
          show Steps p.tables e below (T200.setTop (mkF m 241 #[.val (.int p1), .val (.int p2), .val (.int p3), .val (.int p4), .val (.int p5), .val (.ref b1), .val (.int y1), .val (.int y1), .val (.int y5), .val (.int y5), .val (.ref b184), .val (.ref b188), .val (.int y10), .val .null, .val (.int (0 : Int32)), .val (.int (0 : Int32))] [(.int (1 : Int32))])) _
          exact retN X200 hx (t := .boolean) Bd.returns (by simp) (hb hby at_241) hr
        · have pre202 : ∀ t, Steps p.tables e below (T191.setTop (mkF m 176 #[.val (.int p1), .val (.int p2), .val (.int p3), .val (.int p4), .val (.int p5), .val (.ref b1), .val (.int y1), .val (.int y1), .val (.int y5), .val (.int y5), .val (.ref b184), .val (.ref b188), .val (.int y10), .unset, .unset, .unset] [(.int (2 : Int32)), (.int y10)])) t → Steps p.tables e below (s₁.setTop (entryFrame m #[(.int p1), (.int p2), (.int p3), (.int p4), (.int p5)] maxLocals)) t := by
            intro t kt
            refine pre199 _ ?_
            show Steps p.tables e below (T191.setTop (mkF m 161 #[.val (.int p1), .val (.int p2), .val (.int p3), .val (.int p4), .val (.int p5), .val (.ref b1), .val (.int y1), .val (.int y1), .val (.int y5), .val (.int y5), .val (.ref b184), .val (.ref b188), .val (.int y10), .unset, .unset, .unset] [(.int (1 : Int32)), (.int y10)])) _
            refine XS.icmpYes X191.here hx rfl (pc0 := 161) (pc' := 173) rfl (hb hby at_161) rfl (feq hf199).2 (by decide) (by decide) ?_
            show Steps p.tables e below (T191.setTop (mkF m 173 #[.val (.int p1), .val (.int p2), .val (.int p3), .val (.int p4), .val (.int p5), .val (.ref b1), .val (.int y1), .val (.int y1), .val (.int y5), .val (.int y5), .val (.ref b184), .val (.ref b188), .val (.int y10), .unset, .unset, .unset] [])) _
            refine XS.iload X191.here hx rfl (hb hby at_173) rfl ?_
            refine XS.iconst X191.here hx rfl (hb hby at_175) ?_
            exact kt
          by_cases hf202 : y10 = (2 : Int32)
          · have pre203 : ∀ t, Steps p.tables e below (T191.setTop (mkF m 181 #[.val (.int p1), .val (.int p2), .val (.int p3), .val (.int p4), .val (.int p5), .val (.ref b1), .val (.int y1), .val (.int y1), .val (.int y5), .val (.int y5), .val (.ref b184), .val (.ref b188), .val (.int y10), .unset, .unset, .unset] [(.int y5)])) t → Steps p.tables e below (s₁.setTop (entryFrame m #[(.int p1), (.int p2), (.int p3), (.int p4), (.int p5)] maxLocals)) t := by
              intro t kt
              refine pre202 _ ?_
              show Steps p.tables e below (T191.setTop (mkF m 176 #[.val (.int p1), .val (.int p2), .val (.int p3), .val (.int p4), .val (.int p5), .val (.ref b1), .val (.int y1), .val (.int y1), .val (.int y5), .val (.int y5), .val (.ref b184), .val (.ref b188), .val (.int y10), .unset, .unset, .unset] [(.int (2 : Int32)), (.int y10)])) _
              refine XS.icmpNo X191.here hx rfl (hb hby at_176) rfl (teq hf202).2 ?_
              show Steps p.tables e below (T191.setTop (mkF m 179 #[.val (.int p1), .val (.int p2), .val (.int p3), .val (.int p4), .val (.int p5), .val (.ref b1), .val (.int y1), .val (.int y1), .val (.int y5), .val (.int y5), .val (.ref b184), .val (.ref b188), .val (.int y10), .unset, .unset, .unset] [])) _
              refine XS.iload X191.here hx rfl (hb hby at_179) rfl ?_
              exact kt
            by_cases hf203 : (127 : Int32) < y5
            · obtain ⟨_, _, ⟨T204, L204, k204, n204⟩, -, X204, ⟨Lc204, hQ204, l204, y204, z204⟩, st204⟩ := Jvm.LawKit.callS X191 hx (y := (⟨"java/lang/Integer", "valueOf", "(I)Ljava/lang/Integer;"⟩ : MethodName)) hown191 (mvT hZ191 (wd49 hw)) (mvT hZ191 (wd50 hw)) (mvT hZ191 (wd51 hw)) (mvT hZ191 (wd52 hw)) (by decide) (backOf (W := 0) (rm6_0 l Z a0 hw [] y5 T191.heap n0 OL191 pr26 pr27 hf203) hZ191 (wd52 hw) (wd51 hw) (by decide) (by decide)) (g := (mkF m 181 #[.val (.int p1), .val (.int p2), .val (.int p3), .val (.int p4), .val (.int p5), .val (.ref b1), .val (.int y1), .val (.int y1), .val (.int y5), .val (.int y5), .val (.ref b184), .val (.ref b188), .val (.int y10), .unset, .unset, .unset] [(.int y5)])) rfl (by rw [hml]; rfl) (argsL := [(.int y5)]) (rest := []) (lenOf pd_6 rfl) rfl (by show 2 * 0 + _ ≤ _; exact Nat.le_of_eq rfl) (hb hby at_181) (fun _ _ => ⟨rfl, rfl, (by decide : 7 + 1 ≤ _), (by decide : 48 + 1 ≤ _)⟩)
              dsimp only [Pt.U, Pt.locs, Pt.cells, Pt.slots] at X204 l204 y204 z204 st204 hQ204
              subst l204 y204 z204
              obtain ⟨b204_0, rfl, Nq204, K204, u204_0, u204_1, u204_2⟩ := hQ204
              have KK204 : Keep h0 T204.heap [] := KK191.trans K204 all0
              have OL204 := OL191.keep K204 all0
              have g_b204_0 : n0 ≤ b204_0 := Nat.le_trans (Nat.le_trans (Nat.le_of_eq OL191.1.symm) OL191.2.1) u204_0
              have sz_b204_0 : h0.size ≤ b204_0 := Nat.le_trans KK191.1 u204_0
              have N204 := Fr.app N191 Nq204
              have fc206 := ((((A184.keep K187).ext E188).keep K191).keep K204)
              obtain ⟨cq205, kq205, q205a, q205b, q205c⟩ := isOf hZ191 rfl fc206
              obtain ⟨_, _, ⟨T205, L205, k205, n205⟩, -, X205, ⟨Lc205, hQ205, l205, y205, z205⟩, st205⟩ := X204.virtualBack hx (y := (⟨"com/example/larch/larch/model/Interval", "equals", "(Ljava/lang/Object;)Z"⟩ : MethodName)) (z := (⟨"com/example/larch/larch/model/Interval", "equals", "(Ljava/lang/Object;)Z"⟩ : MethodName)) hown191 (mvT hZ191 (wd42 hw)) (mvT hZ191 (wd43 hw)) (notFace_of_selects (args := #[]) (mvT hZ191 (wd45 hw))) (mvT hZ191 (wd45 hw)) (mvT hZ191 (wd44 hw)) (by decide) (backOf (W := 0) (rm5_3 l Z a0 hw [] b184 b204_0 T204.heap n0 OL204 u204_1) hZ191 (wd46 hw) (wd19 hw) (by decide) (by decide)) q205a q205c (g := (mkF m 203 #[.val (.int p1), .val (.int p2), .val (.int p3), .val (.int p4), .val (.int p5), .val (.ref b1), .val (.int y1), .val (.int y1), .val (.int y5), .val (.int y5), .val (.ref b184), .val (.ref b188), .val (.int y10), .val (.ref b204_0), .val (.int (0 : Int32)), .unset] [(.ref b204_0), (.ref b184)])) rfl (by rw [hml]; rfl) (Steps.refl _) (argsL := [(.ref b204_0)]) (rest := []) (lenOf pd_3 rfl) rfl (by show 2 * 0 + _ ≤ _; exact Nat.le_of_eq rfl) (hb hby at_203) (fun _ _ => ⟨rfl, rfl, (by decide : 8 + 0 ≤ _), (by decide : 49 + 0 ≤ _)⟩)
              dsimp only [Pt.U, Pt.locs, Pt.cells, Pt.slots] at X205 l205 y205 z205 st205 hQ205
              subst l205 y205 z205
              obtain ⟨rfl, Nq205, ec205⟩ := hQ205
              have N205 := Fr.app N204 Nq205
              obtain ⟨fs, hr, hrun, hended, hRW⟩ := X205.leaveW (s := s) hS191 (by rw [ec205]; exact (Nat.le_trans (Nat.le_refl _) K204.1)) (v := some (.int (1 : Int32))) (fun h => by rw [Bd.returns] at h; cases h)
              refine ⟨_, _, pre203 _ ?_, hrun, hended, _, _, rfl, ⟨rfl, N205⟩, hRW.1, hRW.2.1, hRW.2.2.1, hRW.2.2.2.mono (by decide) (by decide)⟩
              show Steps p.tables e below (T191.setTop (mkF m 181 #[.val (.int p1), .val (.int p2), .val (.int p3), .val (.int p4), .val (.int p5), .val (.ref b1), .val (.int y1), .val (.int y1), .val (.int y5), .val (.int y5), .val (.ref b184), .val (.ref b188), .val (.int y10), .unset, .unset, .unset] [(.int y5)])) _
              refine st204 _ ?_
              show Steps p.tables e below (T204.setTop (mkF m 184 #[.val (.int p1), .val (.int p2), .val (.int p3), .val (.int p4), .val (.int p5), .val (.ref b1), .val (.int y1), .val (.int y1), .val (.int y5), .val (.int y5), .val (.ref b184), .val (.ref b188), .val (.int y10), .unset, .unset, .unset] [(.ref b204_0)])) _
              refine XS.astore X204.here hx rfl (hb hby at_184) rfl rfl (l' := #[.val (.int p1), .val (.int p2), .val (.int p3), .val (.int p4), .val (.int p5), .val (.ref b1), .val (.int y1), .val (.int y1), .val (.int y5), .val (.int y5), .val (.ref b184), .val (.ref b188), .val (.int y10), .val (.ref b204_0), .unset, .unset]) rfl ?_
              refine XS.iconst X204.here hx rfl (hb hby at_186) ?_
              refine XS.istore X204.here hx rfl (hb hby at_187) rfl (l' := #[.val (.int p1), .val (.int p2), .val (.int p3), .val (.int p4), .val (.int p5), .val (.ref b1), .val (.int y1), .val (.int y1), .val (.int y5), .val (.int y5), .val (.ref b184), .val (.ref b188), .val (.int y10), .val (.ref b204_0), .val (.int (0 : Int32)), .unset]) rfl ?_
              refine XS.goto X204.here hx rfl (pc0 := 189) (pc' := 199) rfl (hb hby at_189) (by decide) (by decide) ?_
              show Steps p.tables e below (T204.setTop (mkF m 199 #[.val (.int p1), .val (.int p2), .val (.int p3), .val (.int p4), .val (.int p5), .val (.ref b1), .val (.int y1), .val (.int y1), .val (.int y5), .val (.int y5), .val (.ref b184), .val (.ref b188), .val (.int y10), .val (.ref b204_0), .val (.int (0 : Int32)), .unset] [])) _
              refine XS.aload X204.here hx rfl (hb hby at_199) rfl rfl ?_
              refine XS.aload X204.here hx rfl (hb hby at_201) rfl rfl ?_
              show Steps p.tables e below (T204.setTop (mkF m 203 #[.val (.int p1), .val (.int p2), .val (.int p3), .val (.int p4), .val (.int p5), .val (.ref b1), .val (.int y1), .val (.int y1), .val (.int y5), .val (.int y5), .val (.ref b184), .val (.ref b188), .val (.int y10), .val (.ref b204_0), .val (.int (0 : Int32)), .unset] [(.ref b204_0), (.ref b184)])) _
              refine st205.trans ?_
              show Steps p.tables e below (T205.setTop (mkF m 206 #[.val (.int p1), .val (.int p2), .val (.int p3), .val (.int p4), .val (.int p5), .val (.ref b1), .val (.int y1), .val (.int y1), .val (.int y5), .val (.int y5), .val (.ref b184), .val (.ref b188), .val (.int y10), .val (.ref b204_0), .val (.int (0 : Int32)), .unset] [(.int (0 : Int32))])) _
              refine XS.istore X205.here hx rfl (hb hby at_206) rfl (l' := #[.val (.int p1), .val (.int p2), .val (.int p3), .val (.int p4), .val (.int p5), .val (.ref b1), .val (.int y1), .val (.int y1), .val (.int y5), .val (.int y5), .val (.ref b184), .val (.ref b188), .val (.int y10), .val (.ref b204_0), .val (.int (0 : Int32)), .val (.int (0 : Int32))]) rfl ?_
              refine XS.iload X205.here hx rfl (hb hby at_208) rfl ?_
              refine XS.iload X205.here hx rfl (hb hby at_210) rfl ?_
              show Steps p.tables e below (T205.setTop (mkF m 212 #[.val (.int p1), .val (.int p2), .val (.int p3), .val (.int p4), .val (.int p5), .val (.ref b1), .val (.int y1), .val (.int y1), .val (.int y5), .val (.int y5), .val (.ref b184), .val (.ref b188), .val (.int y10), .val (.ref b204_0), .val (.int (0 : Int32)), .val (.int (0 : Int32))] [(.int (0 : Int32)), (.int (0 : Int32))])) _
              refine XS.icmpYes X205.here hx rfl (pc0 := 212) (pc' := 217) rfl (hb hby at_212) rfl (teq (rfl : (0 : Int32) = (0 : Int32))).1 (by decide) (by decide) ?_
              show Steps p.tables e below (T205.setTop (mkF m 217 #[.val (.int p1), .val (.int p2), .val (.int p3), .val (.int p4), .val (.int p5), .val (.ref b1), .val (.int y1), .val (.int y1), .val (.int y5), .val (.int y5), .val (.ref b184), .val (.ref b188), .val (.int y10), .val (.ref b204_0), .val (.int (0 : Int32)), .val (.int (0 : Int32))] [])) _
              refine XS.iload X205.here hx rfl (hb hby at_217) rfl ?_
              show Steps p.tables e below (T205.setTop (mkF m 219 #[.val (.int p1), .val (.int p2), .val (.int p3), .val (.int p4), .val (.int p5), .val (.ref b1), .val (.int y1), .val (.int y1), .val (.int y5), .val (.int y5), .val (.ref b184), .val (.ref b188), .val (.int y10), .val (.ref b204_0), .val (.int (0 : Int32)), .val (.int (0 : Int32))] [(.int y10)])) _
              refine XS.ifYes X205.here hx rfl (pc0 := 219) (pc' := 240) rfl (hb hby at_219) rfl ((if0 _ _).trans (feq hf192).2) (by decide) (by decide) ?_
              show Steps p.tables e below (T205.setTop (mkF m 240 #[.val (.int p1), .val (.int p2), .val (.int p3), .val (.int p4), .val (.int p5), .val (.ref b1), .val (.int y1), .val (.int y1), .val (.int y5), .val (.int y5), .val (.ref b184), .val (.ref b188), .val (.int y10), .val (.ref b204_0), .val (.int (0 : Int32)), .val (.int (0 : Int32))] [])) _
              refine XS.iconst X205.here hx rfl (hb hby at_240) ?_
              show Steps p.tables e below (T205.setTop (mkF m 241 #[.val (.int p1), .val (.int p2), .val (.int p3), .val (.int p4), .val (.int p5), .val (.ref b1), .val (.int y1), .val (.int y1), .val (.int y5), .val (.int y5), .val (.ref b184), .val (.ref b188), .val (.int y10), .val (.ref b204_0), .val (.int (0 : Int32)), .val (.int (0 : Int32))] [(.int (1 : Int32))])) _
              exact retN X205 hx (t := .boolean) Bd.returns (by simp) (hb hby at_241) hr
            · obtain ⟨cx207, bx207⟩ := id pr28
              obtain ⟨wc1, at207, Ea207, Fa207⟩ := own_box bx207 (j := (y5 + (128 : Int32))) (own_inbox pr26 hf203).1 (own_inbox pr26 hf203).2
              simp only [own_addsub] at Fa207
              obtain ⟨_, _, ⟨T208, L208, k208, n208⟩, -, X208, ⟨Lc208, hQ208, l208, y208, z208⟩, st208⟩ := Jvm.LawKit.callS X191 hx (y := (⟨"java/lang/Integer", "valueOf", "(I)Ljava/lang/Integer;"⟩ : MethodName)) hown191 (mvT hZ191 (wd49 hw)) (mvT hZ191 (wd50 hw)) (mvT hZ191 (wd51 hw)) (mvT hZ191 (wd52 hw)) (by decide) (backOf (W := 0) (rm6_1 l Z a0 hw [] y5 w_cache wc1 T191.heap n0 OL191 pr26 pr27 hf203 pr29 at207) hZ191 (wd52 hw) (wd51 hw) (by decide) (by decide)) (g := (mkF m 181 #[.val (.int p1), .val (.int p2), .val (.int p3), .val (.int p4), .val (.int p5), .val (.ref b1), .val (.int y1), .val (.int y1), .val (.int y5), .val (.int y5), .val (.ref b184), .val (.ref b188), .val (.int y10), .unset, .unset, .unset] [(.int y5)])) rfl (by rw [hml]; rfl) (argsL := [(.int y5)]) (rest := []) (lenOf pd_6 rfl) rfl (by show 2 * 0 + _ ≤ _; exact Nat.le_of_eq rfl) (hb hby at_181) (fun _ _ => ⟨rfl, rfl, (by decide : 7 + 0 ≤ _), (by decide : 48 + 0 ≤ _)⟩)
              dsimp only [Pt.U, Pt.locs, Pt.cells, Pt.slots] at X208 l208 y208 z208 st208 hQ208
              subst l208 y208 z208
              obtain ⟨rfl, Nq208, ec208⟩ := hQ208
              have N208 := Fr.app N191 Nq208
              have fc210 := (((A184.keep K187).ext E188).keep K191)
              obtain ⟨cq209, kq209, q209a, q209b, q209c⟩ := isOf hZ191 ec208 fc210
              obtain ⟨_, _, ⟨T209, L209, k209, n209⟩, -, X209, ⟨Lc209, hQ209, l209, y209, z209⟩, st209⟩ := X208.virtualBack hx (y := (⟨"com/example/larch/larch/model/Interval", "equals", "(Ljava/lang/Object;)Z"⟩ : MethodName)) (z := (⟨"com/example/larch/larch/model/Interval", "equals", "(Ljava/lang/Object;)Z"⟩ : MethodName)) hown191 (mvT hZ191 (wd42 hw)) (mvT hZ191 (wd43 hw)) (notFace_of_selects (args := #[]) (mvT hZ191 (wd45 hw))) (mvT hZ191 (wd45 hw)) (mvT hZ191 (wd44 hw)) (by decide) (backOf (W := 0) (rm5_4 l Z a0 hw [] b184 wc1 T191.heap n0 OL191 Ea207) hZ191 (wd46 hw) (wd19 hw) (by decide) (by decide)) q209a q209c (g := (mkF m 203 #[.val (.int p1), .val (.int p2), .val (.int p3), .val (.int p4), .val (.int p5), .val (.ref b1), .val (.int y1), .val (.int y1), .val (.int y5), .val (.int y5), .val (.ref b184), .val (.ref b188), .val (.int y10), .val (.ref wc1), .val (.int (0 : Int32)), .unset] [(.ref wc1), (.ref b184)])) rfl (by rw [hml]; rfl) (Steps.refl _) (argsL := [(.ref wc1)]) (rest := []) (lenOf pd_3 rfl) rfl (by show 2 * 0 + _ ≤ _; exact Nat.le_of_eq rfl) (hb hby at_203) (fun _ _ => ⟨rfl, ec208, (by decide : 7 + 0 ≤ _), (by decide : 48 + 0 ≤ _)⟩)
              dsimp only [Pt.U, Pt.locs, Pt.cells, Pt.slots] at X209 l209 y209 z209 st209 hQ209
              subst l209 y209 z209
              obtain ⟨rfl, Nq209, ec209⟩ := hQ209
              have N209 := Fr.app N208 Nq209
              obtain ⟨fs, hr, hrun, hended, hRW⟩ := X209.leaveW (s := s) hS191 (by rw [ec209]; exact (Nat.le_refl _)) (v := some (.int (1 : Int32))) (fun h => by rw [Bd.returns] at h; cases h)
              refine ⟨_, _, pre203 _ ?_, hrun, hended, _, _, rfl, ⟨rfl, N209⟩, hRW.1, hRW.2.1, hRW.2.2.1, hRW.2.2.2.mono (by decide) (by decide)⟩
              show Steps p.tables e below (T191.setTop (mkF m 181 #[.val (.int p1), .val (.int p2), .val (.int p3), .val (.int p4), .val (.int p5), .val (.ref b1), .val (.int y1), .val (.int y1), .val (.int y5), .val (.int y5), .val (.ref b184), .val (.ref b188), .val (.int y10), .unset, .unset, .unset] [(.int y5)])) _
              refine st208 _ ?_
              show Steps p.tables e below (T208.setTop (mkF m 184 #[.val (.int p1), .val (.int p2), .val (.int p3), .val (.int p4), .val (.int p5), .val (.ref b1), .val (.int y1), .val (.int y1), .val (.int y5), .val (.int y5), .val (.ref b184), .val (.ref b188), .val (.int y10), .unset, .unset, .unset] [(.ref wc1)])) _
              refine XS.astore X208.here hx rfl (hb hby at_184) rfl rfl (l' := #[.val (.int p1), .val (.int p2), .val (.int p3), .val (.int p4), .val (.int p5), .val (.ref b1), .val (.int y1), .val (.int y1), .val (.int y5), .val (.int y5), .val (.ref b184), .val (.ref b188), .val (.int y10), .val (.ref wc1), .unset, .unset]) rfl ?_
              refine XS.iconst X208.here hx rfl (hb hby at_186) ?_
              refine XS.istore X208.here hx rfl (hb hby at_187) rfl (l' := #[.val (.int p1), .val (.int p2), .val (.int p3), .val (.int p4), .val (.int p5), .val (.ref b1), .val (.int y1), .val (.int y1), .val (.int y5), .val (.int y5), .val (.ref b184), .val (.ref b188), .val (.int y10), .val (.ref wc1), .val (.int (0 : Int32)), .unset]) rfl ?_
              refine XS.goto X208.here hx rfl (pc0 := 189) (pc' := 199) rfl (hb hby at_189) (by decide) (by decide) ?_
              show Steps p.tables e below (T208.setTop (mkF m 199 #[.val (.int p1), .val (.int p2), .val (.int p3), .val (.int p4), .val (.int p5), .val (.ref b1), .val (.int y1), .val (.int y1), .val (.int y5), .val (.int y5), .val (.ref b184), .val (.ref b188), .val (.int y10), .val (.ref wc1), .val (.int (0 : Int32)), .unset] [])) _
              refine XS.aload X208.here hx rfl (hb hby at_199) rfl rfl ?_
              refine XS.aload X208.here hx rfl (hb hby at_201) rfl rfl ?_
              show Steps p.tables e below (T208.setTop (mkF m 203 #[.val (.int p1), .val (.int p2), .val (.int p3), .val (.int p4), .val (.int p5), .val (.ref b1), .val (.int y1), .val (.int y1), .val (.int y5), .val (.int y5), .val (.ref b184), .val (.ref b188), .val (.int y10), .val (.ref wc1), .val (.int (0 : Int32)), .unset] [(.ref wc1), (.ref b184)])) _
              refine st209.trans ?_
              show Steps p.tables e below (T209.setTop (mkF m 206 #[.val (.int p1), .val (.int p2), .val (.int p3), .val (.int p4), .val (.int p5), .val (.ref b1), .val (.int y1), .val (.int y1), .val (.int y5), .val (.int y5), .val (.ref b184), .val (.ref b188), .val (.int y10), .val (.ref wc1), .val (.int (0 : Int32)), .unset] [(.int (0 : Int32))])) _
              refine XS.istore X209.here hx rfl (hb hby at_206) rfl (l' := #[.val (.int p1), .val (.int p2), .val (.int p3), .val (.int p4), .val (.int p5), .val (.ref b1), .val (.int y1), .val (.int y1), .val (.int y5), .val (.int y5), .val (.ref b184), .val (.ref b188), .val (.int y10), .val (.ref wc1), .val (.int (0 : Int32)), .val (.int (0 : Int32))]) rfl ?_
              refine XS.iload X209.here hx rfl (hb hby at_208) rfl ?_
              refine XS.iload X209.here hx rfl (hb hby at_210) rfl ?_
              show Steps p.tables e below (T209.setTop (mkF m 212 #[.val (.int p1), .val (.int p2), .val (.int p3), .val (.int p4), .val (.int p5), .val (.ref b1), .val (.int y1), .val (.int y1), .val (.int y5), .val (.int y5), .val (.ref b184), .val (.ref b188), .val (.int y10), .val (.ref wc1), .val (.int (0 : Int32)), .val (.int (0 : Int32))] [(.int (0 : Int32)), (.int (0 : Int32))])) _
              refine XS.icmpYes X209.here hx rfl (pc0 := 212) (pc' := 217) rfl (hb hby at_212) rfl (teq (rfl : (0 : Int32) = (0 : Int32))).1 (by decide) (by decide) ?_
              show Steps p.tables e below (T209.setTop (mkF m 217 #[.val (.int p1), .val (.int p2), .val (.int p3), .val (.int p4), .val (.int p5), .val (.ref b1), .val (.int y1), .val (.int y1), .val (.int y5), .val (.int y5), .val (.ref b184), .val (.ref b188), .val (.int y10), .val (.ref wc1), .val (.int (0 : Int32)), .val (.int (0 : Int32))] [])) _
              refine XS.iload X209.here hx rfl (hb hby at_217) rfl ?_
              show Steps p.tables e below (T209.setTop (mkF m 219 #[.val (.int p1), .val (.int p2), .val (.int p3), .val (.int p4), .val (.int p5), .val (.ref b1), .val (.int y1), .val (.int y1), .val (.int y5), .val (.int y5), .val (.ref b184), .val (.ref b188), .val (.int y10), .val (.ref wc1), .val (.int (0 : Int32)), .val (.int (0 : Int32))] [(.int y10)])) _
              refine XS.ifYes X209.here hx rfl (pc0 := 219) (pc' := 240) rfl (hb hby at_219) rfl ((if0 _ _).trans (feq hf192).2) (by decide) (by decide) ?_
              show Steps p.tables e below (T209.setTop (mkF m 240 #[.val (.int p1), .val (.int p2), .val (.int p3), .val (.int p4), .val (.int p5), .val (.ref b1), .val (.int y1), .val (.int y1), .val (.int y5), .val (.int y5), .val (.ref b184), .val (.ref b188), .val (.int y10), .val (.ref wc1), .val (.int (0 : Int32)), .val (.int (0 : Int32))] [])) _
              refine XS.iconst X209.here hx rfl (hb hby at_240) ?_
              show Steps p.tables e below (T209.setTop (mkF m 241 #[.val (.int p1), .val (.int p2), .val (.int p3), .val (.int p4), .val (.int p5), .val (.ref b1), .val (.int y1), .val (.int y1), .val (.int y5), .val (.int y5), .val (.ref b184), .val (.ref b188), .val (.int y10), .val (.ref wc1), .val (.int (0 : Int32)), .val (.int (0 : Int32))] [(.int (1 : Int32))])) _
              exact retN X209 hx (t := .boolean) Bd.returns (by simp) (hb hby at_241) hr
          · have fc212 := (((A184.keep K187).ext E188).keep K191)
            have fc213 := ((u187_0.ext E188).keep K191 (ninS (Nat.ne_of_lt (Nat.lt_of_lt_of_le u187_1.lt (Nat.le_of_eq g188.symm))) nin0))
            have fc214 := ((u187_1.ext E188).keep K191 (ninS (Nat.ne_of_lt (Nat.lt_of_lt_of_le u187_1.lt (Nat.le_of_eq g188.symm))) nin0))
            obtain ⟨cq211, kq211, q211a, q211b, q211c⟩ := isOf hZ191 rfl fc212
            obtain ⟨_, _, ⟨T211, L211, k211, n211⟩, -, X211, ⟨Lc211, hQ211, l211, y211, z211⟩, st211⟩ := X191.virtualBack hx (y := (⟨"com/example/larch/larch/model/Interval", "equals", "(Ljava/lang/Object;)Z"⟩ : MethodName)) (z := (⟨"com/example/larch/larch/model/Interval", "equals", "(Ljava/lang/Object;)Z"⟩ : MethodName)) hown191 (mvT hZ191 (wd42 hw)) (mvT hZ191 (wd43 hw)) (notFace_of_selects (args := #[]) (mvT hZ191 (wd45 hw))) (mvT hZ191 (wd45 hw)) (mvT hZ191 (wd44 hw)) (by decide) (backOf (W := 0) (rm5_5 l Z a0 hw [] b184 v1 y5 T191.heap n0 OL191 fc212 fc213 fc214) hZ191 (wd46 hw) (wd19 hw) (by decide) (by decide)) q211a q211c (g := (mkF m 203 #[.val (.int p1), .val (.int p2), .val (.int p3), .val (.int p4), .val (.int p5), .val (.ref b1), .val (.int y1), .val (.int y1), .val (.int y5), .val (.int y5), .val (.ref b184), .val (.ref b188), .val (.int y10), .val (.ref b184), .val (.int (1 : Int32)), .unset] [(.ref b184), (.ref b184)])) rfl (by rw [hml]; rfl) (Steps.refl _) (argsL := [(.ref b184)]) (rest := []) (lenOf pd_3 rfl) rfl (by show 2 * 0 + _ ≤ _; exact Nat.le_of_eq rfl) (hb hby at_203) (fun _ _ => ⟨rfl, rfl, (by decide : 7 + 0 ≤ _), (by decide : 48 + 0 ≤ _)⟩)
            dsimp only [Pt.U, Pt.locs, Pt.cells, Pt.slots] at X211 l211 y211 z211 st211 hQ211
            subst l211 y211 z211
            obtain ⟨rfl, Nq211, ec211⟩ := hQ211
            have N211 := Fr.app N191 Nq211
            obtain ⟨fs, hr, hrun, hended, hRW⟩ := X211.leaveW (s := s) hS191 (by rw [ec211]; exact (Nat.le_refl _)) (v := some (.int (1 : Int32))) (fun h => by rw [Bd.returns] at h; cases h)
            refine ⟨_, _, pre202 _ ?_, hrun, hended, _, _, rfl, ⟨rfl, N211⟩, hRW.1, hRW.2.1, hRW.2.2.1, hRW.2.2.2.mono (by decide) (by decide)⟩
            show Steps p.tables e below (T191.setTop (mkF m 176 #[.val (.int p1), .val (.int p2), .val (.int p3), .val (.int p4), .val (.int p5), .val (.ref b1), .val (.int y1), .val (.int y1), .val (.int y5), .val (.int y5), .val (.ref b184), .val (.ref b188), .val (.int y10), .unset, .unset, .unset] [(.int (2 : Int32)), (.int y10)])) _
            refine XS.icmpYes X191.here hx rfl (pc0 := 176) (pc' := 192) rfl (hb hby at_176) rfl (feq hf202).2 (by decide) (by decide) ?_
            show Steps p.tables e below (T191.setTop (mkF m 192 #[.val (.int p1), .val (.int p2), .val (.int p3), .val (.int p4), .val (.int p5), .val (.ref b1), .val (.int y1), .val (.int y1), .val (.int y5), .val (.int y5), .val (.ref b184), .val (.ref b188), .val (.int y10), .unset, .unset, .unset] [])) _
            refine XS.aload X191.here hx rfl (hb hby at_192) rfl rfl ?_
            refine XS.astore X191.here hx rfl (hb hby at_194) rfl rfl (l' := #[.val (.int p1), .val (.int p2), .val (.int p3), .val (.int p4), .val (.int p5), .val (.ref b1), .val (.int y1), .val (.int y1), .val (.int y5), .val (.int y5), .val (.ref b184), .val (.ref b188), .val (.int y10), .val (.ref b184), .unset, .unset]) rfl ?_
            refine XS.iconst X191.here hx rfl (hb hby at_196) ?_
            refine XS.istore X191.here hx rfl (hb hby at_197) rfl (l' := #[.val (.int p1), .val (.int p2), .val (.int p3), .val (.int p4), .val (.int p5), .val (.ref b1), .val (.int y1), .val (.int y1), .val (.int y5), .val (.int y5), .val (.ref b184), .val (.ref b188), .val (.int y10), .val (.ref b184), .val (.int (1 : Int32)), .unset]) rfl ?_
            show Steps p.tables e below (T191.setTop (mkF m 199 #[.val (.int p1), .val (.int p2), .val (.int p3), .val (.int p4), .val (.int p5), .val (.ref b1), .val (.int y1), .val (.int y1), .val (.int y5), .val (.int y5), .val (.ref b184), .val (.ref b188), .val (.int y10), .val (.ref b184), .val (.int (1 : Int32)), .unset] [])) _
            refine XS.aload X191.here hx rfl (hb hby at_199) rfl rfl ?_
            refine XS.aload X191.here hx rfl (hb hby at_201) rfl rfl ?_
            show Steps p.tables e below (T191.setTop (mkF m 203 #[.val (.int p1), .val (.int p2), .val (.int p3), .val (.int p4), .val (.int p5), .val (.ref b1), .val (.int y1), .val (.int y1), .val (.int y5), .val (.int y5), .val (.ref b184), .val (.ref b188), .val (.int y10), .val (.ref b184), .val (.int (1 : Int32)), .unset] [(.ref b184), (.ref b184)])) _
            refine st211.trans ?_
            show Steps p.tables e below (T211.setTop (mkF m 206 #[.val (.int p1), .val (.int p2), .val (.int p3), .val (.int p4), .val (.int p5), .val (.ref b1), .val (.int y1), .val (.int y1), .val (.int y5), .val (.int y5), .val (.ref b184), .val (.ref b188), .val (.int y10), .val (.ref b184), .val (.int (1 : Int32)), .unset] [(.int (1 : Int32))])) _
            refine XS.istore X211.here hx rfl (hb hby at_206) rfl (l' := #[.val (.int p1), .val (.int p2), .val (.int p3), .val (.int p4), .val (.int p5), .val (.ref b1), .val (.int y1), .val (.int y1), .val (.int y5), .val (.int y5), .val (.ref b184), .val (.ref b188), .val (.int y10), .val (.ref b184), .val (.int (1 : Int32)), .val (.int (1 : Int32))]) rfl ?_
            refine XS.iload X211.here hx rfl (hb hby at_208) rfl ?_
            refine XS.iload X211.here hx rfl (hb hby at_210) rfl ?_
            show Steps p.tables e below (T211.setTop (mkF m 212 #[.val (.int p1), .val (.int p2), .val (.int p3), .val (.int p4), .val (.int p5), .val (.ref b1), .val (.int y1), .val (.int y1), .val (.int y5), .val (.int y5), .val (.ref b184), .val (.ref b188), .val (.int y10), .val (.ref b184), .val (.int (1 : Int32)), .val (.int (1 : Int32))] [(.int (1 : Int32)), (.int (1 : Int32))])) _
            refine XS.icmpYes X211.here hx rfl (pc0 := 212) (pc' := 217) rfl (hb hby at_212) rfl (teq (rfl : (1 : Int32) = (1 : Int32))).1 (by decide) (by decide) ?_
            show Steps p.tables e below (T211.setTop (mkF m 217 #[.val (.int p1), .val (.int p2), .val (.int p3), .val (.int p4), .val (.int p5), .val (.ref b1), .val (.int y1), .val (.int y1), .val (.int y5), .val (.int y5), .val (.ref b184), .val (.ref b188), .val (.int y10), .val (.ref b184), .val (.int (1 : Int32)), .val (.int (1 : Int32))] [])) _
            refine XS.iload X211.here hx rfl (hb hby at_217) rfl ?_
            show Steps p.tables e below (T211.setTop (mkF m 219 #[.val (.int p1), .val (.int p2), .val (.int p3), .val (.int p4), .val (.int p5), .val (.ref b1), .val (.int y1), .val (.int y1), .val (.int y5), .val (.int y5), .val (.ref b184), .val (.ref b188), .val (.int y10), .val (.ref b184), .val (.int (1 : Int32)), .val (.int (1 : Int32))] [(.int y10)])) _
            refine XS.ifYes X211.here hx rfl (pc0 := 219) (pc' := 240) rfl (hb hby at_219) rfl ((if0 _ _).trans (feq hf192).2) (by decide) (by decide) ?_
            show Steps p.tables e below (T211.setTop (mkF m 240 #[.val (.int p1), .val (.int p2), .val (.int p3), .val (.int p4), .val (.int p5), .val (.ref b1), .val (.int y1), .val (.int y1), .val (.int y5), .val (.int y5), .val (.ref b184), .val (.ref b188), .val (.int y10), .val (.ref b184), .val (.int (1 : Int32)), .val (.int (1 : Int32))] [])) _
            refine XS.iconst X211.here hx rfl (hb hby at_240) ?_
            show Steps p.tables e below (T211.setTop (mkF m 241 #[.val (.int p1), .val (.int p2), .val (.int p3), .val (.int p4), .val (.int p5), .val (.ref b1), .val (.int y1), .val (.int y1), .val (.int y5), .val (.int y5), .val (.ref b184), .val (.ref b188), .val (.int y10), .val (.ref b184), .val (.int (1 : Int32)), .val (.int (1 : Int32))] [(.int (1 : Int32))])) _
            exact retN X211 hx (t := .boolean) Bd.returns (by simp) (hb hby at_241) hr
set_option maxRecDepth 65536 in
set_option maxHeartbeats 40000000 in
theorem comes_1 {Post : Tables → Env → Array Value → State → Outcome → State → Prop} (hpost : ∀ tb e args s v u, (limb_1_1.after args s (.returned v) u = true ∧ limb_1_2.after args s (.returned v) u = true ∧ True) → ReturnedEndW s (.returned v) u (Jvm.fieldLocs frame_1_writes args s ++ Jvm.arrayLocs frame_1_arrays args s ++ Jvm.staticLocs frame_1_statics s) 24 1152 → Post tb e args s (.returned v) u) :
    ArmFor flags0 classFile x code maxLocals ret World_1 tables_1 room_1 Calls_1 rest_1 Pre_1 Post := by
  intro l hfl _ _ p e ha hc hk s m args below hf hA hF happ hP
  obtain ⟨hcalls, hrest, hpre⟩ := hP
  obtain ⟨-, -, -, hnamed, -, -, -, hat⟩ := (Spec.applies_iff hf).mp happ
  obtain ⟨hg, hn⟩ := and_e (Cond.before_iff.mp (show (Jvm.Cond.and given_1 narrow_1).before args s = true from hpre))
  obtain ⟨g29, g30⟩ := and_e hg
  obtain ⟨g31, g32⟩ := and_e g30
  obtain ⟨g33, g34⟩ := and_e g32
  obtain ⟨g35, g36⟩ := and_e g34
  obtain ⟨g37, g38⟩ := and_e g36
  obtain ⟨w0, w1, w2, w3, w4, rfl⟩ : ∃ w0 w1 w2 w3 w4 : Value, args = #[w0, w1, w2, w3, w4] := by
    have hs : args.size = 5 := by simpa [Cond.value, given_1] using g29
    obtain ⟨L⟩ := args
    match L, hs with
    | [w0, w1, w2, w3, w4], _ => exact ⟨w0, w1, w2, w3, w4, rfl⟩
  have hw := fun d (hd : d ∈ tables_1) => atoms_spec (ws := Jvm.Cond.code x code maxLocals ret :: tables_1) hat d (List.mem_cons_of_mem _ hd)
  have hfit : Fit s := fun {y c} hc i hi => by
    obtain ⟨ha, rfl⟩ := Array.getElem?_eq_some_iff.mp hc
    have q := List.all_eq_true.mp ((Array.all_eq_true_iff_forall_mem.mp hF) _ (Array.getElem_mem ha)) i (List.mem_range.mpr hi)
    simpa [Array.getElem?_eq_getElem hi] using q
  obtain ⟨hsets, hown0⟩ := atoms_of _ (rest_1_c_eq ▸ (show rest_1_c.before _ s = true from hrest))
  obtain ⟨i0, ei0⟩ := is_v g31
  obtain rfl : w0 = (.int i0) := Option.some.inj ei0
  obtain ⟨i1, ei1⟩ := is_v g33
  obtain rfl : w1 = (.int i1) := Option.some.inj ei1
  obtain ⟨i2, ei2⟩ := is_v g35
  obtain rfl : w2 = (.int i2) := Option.some.inj ei2
  obtain ⟨i3, ei3⟩ := is_v g37
  obtain rfl : w3 = (.int i3) := Option.some.inj ei3
  obtain ⟨i4, ei4⟩ := is_v g38
  obtain rfl : w4 = (.int i4) := Option.some.inj ei4
  obtain ⟨n1, n2⟩ := and_e hn
  obtain ⟨n3, n4⟩ := and_e n2
  obtain ⟨n5, n6⟩ := and_e n4
  obtain ⟨n7, n8⟩ := and_e n6
  obtain ⟨n9, n10⟩ := and_e n8
  obtain ⟨n11, n12⟩ := and_e n10
  obtain ⟨n13, n14⟩ := and_e n12
  obtain ⟨w_DAY, ev15⟩ := exa_v n1
  have S_IntervalUnit_DAY : Sta s s.heap "com/example/larch/larch/model/IntervalUnit" "DAY" "Lcom/example/larch/larch/model/IntervalUnit;" (.ref w_DAY) := Sta.start ev15 (Or.inr ⟨(wd3 hw), (wd4 hw)⟩)
  have E_w_DAY : Exa s s.heap w_DAY "com/example/larch/larch/model/IntervalUnit" := Exa.start ev15 n1
  obtain ⟨w_WEEK, ev16⟩ := exa_v n3
  have S_IntervalUnit_WEEK : Sta s s.heap "com/example/larch/larch/model/IntervalUnit" "WEEK" "Lcom/example/larch/larch/model/IntervalUnit;" (.ref w_WEEK) := Sta.start ev16 (Or.inr ⟨(wd3 hw), (wd7 hw)⟩)
  have E_w_WEEK : Exa s s.heap w_WEEK "com/example/larch/larch/model/IntervalUnit" := Exa.start ev16 n3
  obtain ⟨w_MONTH, ev17⟩ := exa_v n5
  have S_IntervalUnit_MONTH : Sta s s.heap "com/example/larch/larch/model/IntervalUnit" "MONTH" "Lcom/example/larch/larch/model/IntervalUnit;" (.ref w_MONTH) := Sta.start ev17 (Or.inr ⟨(wd3 hw), (wd9 hw)⟩)
  have E_w_MONTH : Exa s s.heap w_MONTH "com/example/larch/larch/model/IntervalUnit" := Exa.start ev17 n5
  obtain ⟨w_YEAR, ev18⟩ := exa_v n7
  have S_IntervalUnit_YEAR : Sta s s.heap "com/example/larch/larch/model/IntervalUnit" "YEAR" "Lcom/example/larch/larch/model/IntervalUnit;" (.ref w_YEAR) := Sta.start ev18 (Or.inr ⟨(wd3 hw), (wd11 hw)⟩)
  have E_w_YEAR : Exa s s.heap w_YEAR "com/example/larch/larch/model/IntervalUnit" := Exa.start ev18 n7
  obtain ⟨w_cache, ev19⟩ := exa_v (Cond.before_iff.mp (hsets _ (List.mem_of_getElem? (i := 5) rfl)))
  have S_Integer_IntegerCache_cache : Sta s s.heap "java/lang/Integer$IntegerCache" "cache" "[Ljava/lang/Integer;" (.ref w_cache) := Sta.start ev19 (Or.inr ⟨(wd54 hw), (hsets _ (List.mem_of_getElem? (i := 2) rfl))⟩)
  have E_w_cache : Exa s s.heap w_cache "[Ljava/lang/Integer;" := Exa.start ev19 (Cond.before_iff.mp (hsets _ (List.mem_of_getElem? (i := 5) rfl)))
  have ev20 := own_eqI n9
  have F_21 : Fld s s.heap w_DAY "java/lang/Enum" "ordinal" "I" (.int (0 : Int32)) := Fld.start ((fld_at ev15).symm.trans ev20)
  have ev22 := own_eqI n11
  have F_23 : Fld s s.heap w_MONTH "java/lang/Enum" "ordinal" "I" (.int (2 : Int32)) := Fld.start ((fld_at ev17).symm.trans ev22)
  have ev24 := own_eqI n13
  have F_25 : Fld s s.heap w_WEEK "java/lang/Enum" "ordinal" "I" (.int (1 : Int32)) := Fld.start ((fld_at ev16).symm.trans ev24)
  have ev26 := own_eqI n14
  have F_27 : Fld s s.heap w_YEAR "java/lang/Enum" "ordinal" "I" (.int (3 : Int32)) := Fld.start ((fld_at ev18).symm.trans ev26)
  have ev28 := own_eqI (Cond.before_iff.mp (hsets _ (List.mem_of_getElem? (i := 3) rfl)))
  have S_Integer_IntegerCache_high : Sta s s.heap "java/lang/Integer$IntegerCache" "high" "I" (.int (127 : Int32)) := Sta.start ev28 (Or.inl (hsets _ (List.mem_of_getElem? (i := 1) rfl)))
  obtain ⟨cc_w_cache, B_w_cache⟩ := own_bxs (z := 256) (val := fun j => .int (j - 128)) ev19 (Cond.before_iff.mp (hsets _ (List.mem_of_getElem? (i := 4) rfl))) (Cond.before_iff.mp (hsets _ (List.mem_of_getElem? (i := 6) rfl))) (by decide) (Cond.before_iff.mp (hsets _ (List.mem_of_getElem? (i := 7) rfl))) (fun X j hj h => eqv_i (own_idx hj) h)
  obtain ⟨v1, selv1, E_v1, F_v1⟩ : ∃ w, ([(.ref w_DAY), (.ref w_WEEK), (.ref w_MONTH), (.ref w_YEAR)] : List Value).getD ((i0 &&& (3 : Int32))).toNatClampNeg .null = .ref w ∧ Exa s s.heap w "com/example/larch/larch/model/IntervalUnit" ∧ Fld s s.heap w "java/lang/Enum" "ordinal" "I" (.int (i0 &&& (3 : Int32))) := by
    rcases own_and3 i0 with h | h | h | h
    · exact ⟨w_DAY, by rw [h]; rfl, E_w_DAY, by rw [h]; exact F_21⟩
    · exact ⟨w_WEEK, by rw [h]; rfl, E_w_WEEK, by rw [h]; exact F_25⟩
    · exact ⟨w_MONTH, by rw [h]; rfl, E_w_MONTH, by rw [h]; exact F_23⟩
    · exact ⟨w_YEAR, by rw [h]; rfl, E_w_YEAR, by rw [h]; exact F_27⟩
  obtain ⟨v2, selv2, E_v2, F_v2⟩ : ∃ w, ([(.ref w_DAY), (.ref w_WEEK), (.ref w_MONTH), (.ref w_YEAR)] : List Value).getD ((i2 &&& (3 : Int32))).toNatClampNeg .null = .ref w ∧ Exa s s.heap w "com/example/larch/larch/model/IntervalUnit" ∧ Fld s s.heap w "java/lang/Enum" "ordinal" "I" (.int (i2 &&& (3 : Int32))) := by
    rcases own_and3 i2 with h | h | h | h
    · exact ⟨w_DAY, by rw [h]; rfl, E_w_DAY, by rw [h]; exact F_21⟩
    · exact ⟨w_WEEK, by rw [h]; rfl, E_w_WEEK, by rw [h]; exact F_25⟩
    · exact ⟨w_MONTH, by rw [h]; rfl, E_w_MONTH, by rw [h]; exact F_23⟩
    · exact ⟨w_YEAR, by rw [h]; rfl, E_w_YEAR, by rw [h]; exact F_27⟩
  have b1 := own_b3 i0
  have b2 := own_b3 i2
  have g1 := own_imax1 (i1 &&& (2147483647 : Int32))
  have g2 := own_imax1 (i3 &&& (2147483647 : Int32))
  have l0 : (0 : Int32).toInt = 0 := by decide
  have l1 : (1 : Int32).toInt = 1 := by decide
  have l127 : (127 : Int32).toInt = 127 := by decide
  have l128 : (128 : Int32).toInt = 128 := by decide
  have lm : (-128 : Int32).toInt = -128 := by decide
  have l256 : (256 : Int32).toInt = 256 := by decide
  have R : MetFree l x (head1 (Jvm.Cond.code x code maxLocals ret :: tables_1) room_1) (fun a U => a = #[(.int i0), (.int i1), (.int i2), (.int i3), (.int i4)] ∧ s.Warmed39 U.vm ∧ U.heap = s.heap) (fun _ _ _ _ _ => True) (fun _ U o U' => ∃ v L, o = .returned v ∧ Q0 s.heap.size v L ∧ ReturnedEndW U o U' L 24 1152) := by
    exact rm0 l s _ hw tables_1 i0 i1 i2 i3 i4 w_DAY w_WEEK w_MONTH w_YEAR (i0 &&& (3 : Int32)) (i4 &&& (8 : Int32)) (i2 &&& (3 : Int32)) (i1 &&& (2147483647 : Int32)) (own_imax (1 : Int32) (i1 &&& (2147483647 : Int32))) (i4 &&& (1 : Int32)) (i3 &&& (2147483647 : Int32)) (own_imax (1 : Int32) (i3 &&& (2147483647 : Int32))) v1 ((i4.toUInt32 >>> ((1 : Int32) &&& 31).toUInt32).toInt32) (((i4.toUInt32 >>> ((1 : Int32) &&& 31).toUInt32).toInt32) &&& (3 : Int32)) w_cache v2 s.heap s.heap.size (Old.start s) S_IntervalUnit_DAY E_w_DAY S_IntervalUnit_WEEK E_w_WEEK S_IntervalUnit_MONTH E_w_MONTH S_IntervalUnit_YEAR E_w_YEAR rfl rfl rfl rfl rfl rfl rfl rfl b1.1 b1.2 selv1 (by rw [Int32.lt_iff_toInt_lt]; omega : ¬ ((own_imax (1 : Int32) (i1 &&& (2147483647 : Int32))) < (1 : Int32))) b2.1 b2.2 (by rw [Int32.lt_iff_toInt_lt]; omega : ¬ ((own_imax (1 : Int32) (i3 &&& (2147483647 : Int32))) < (1 : Int32))) rfl rfl (by rw [Int32.lt_iff_toInt_lt]; omega : ¬ ((own_imax (1 : Int32) (i1 &&& (2147483647 : Int32))) < (-128 : Int32))) S_Integer_IntegerCache_high ⟨_, B_w_cache⟩ S_Integer_IntegerCache_cache selv2 F_v1 F_v2
  obtain ⟨n, o, h1, h2, h3, _, L, rfl, ⟨rfl, N⟩, hq⟩ := R p e ha hc hk s m _ below hf ((Spec.applies_iff_loose hf).mp happ).1 ⟨rfl, State.Warmed39.refl s, rfl⟩ trivial
  refine ⟨n, _, h1, h2, h3, hpost _ _ _ _ _ _ ⟨Cond.after_iff.mpr rfl, Cond.after_iff.mpr (eq_i res_at (Term.int_eval (1)) rfl), trivial⟩ ⟨hq.1, hq.2.1, hq.2.2.1, (hq.2.2.2.sift fun y hy => Or.inr (N y hy)).mono (by decide) (by decide)⟩⟩
theorem main_1_1 : Claimed_1_1 := comes_1 fun _ _ _ _ _ _ h hF => ⟨h.1, hF⟩
theorem main_1_2 : Claimed_1_2 := comes_1 fun _ _ _ _ _ _ h hF => ⟨h.2.1, hF⟩
end Jvm.Pilot.@@N@@
namespace Jvm.Pilot.@@N@@
open Jvm Jvm.ClassFile Sem Op Lib Jvm.Free Jvm.Stand Jvm.Pilot.@@N@@.Jvm.D
/-! MADE BY PROGRAM (witnessworld.py) out of the Statement's table words and the real class files: 23 classes; the members and pool entries that the words name. The judged class is class 1, her method 1. -/
namespace start1
open Jvm.ClassFile
def u (s : String) : CpInfo := .utf8 (stringToUtf16 s)
/-- a pool by its gaps: so many unusable entries, then the entry; so many at the end -/
def gap : Nat → List CpInfo → List CpInfo
  | 0, r => r
  | n + 1, r => .unusable :: gap n r
def poolList (es : List (Nat × CpInfo)) (last : Nat) : List CpInfo := es.foldr (fun e r => gap e.1 (e.2 :: r)) (gap last [])
def pool (es : List (Nat × CpInfo)) (last : Nat) : Array CpInfo := ⟨poolList es last⟩
def fileOf (pool : Array CpInfo) (this : Nat) (attrs : Array Attribute := #[]) (ms : Array MethodInfo := #[]) (fl : Nat := 33) (sup : Nat := 0) (ifs : Array Nat := #[]) (fds : Array FieldInfo := #[]) : ClassFile where
  minorVersion := 0
  majorVersion := 65
  constantPool := pool
  accessFlags := fl
  thisClass := this
  superClass := sup
  interfaces := ifs
  fields := fds
  methods := ms
  attributes := attrs
def plain (name : String) (sup : Option ClassId) : Class where
  name := name
  kind := .ordinary
  loader := none
  accessFlags := 33
  super := sup
  interfaces := #[]
  cf := none
  fields := #[]
  methods := #[]
  instanceTypes := #[]
  staticTypes := #[]
  resolved := #[]
  callSites := []
  init := .initialized
  statics := none
  mirror := none

def pool0 : Array CpInfo := pool [(5, u "<init>"), (0, u "()V"), (1, .class_ 10), (1, u "java/lang/Object")] 113

def k0c0 : Code := { maxStack := 0, maxLocals := 1, code := object_method_1_code, exceptionTable := #[], attributes := #[] }
def k0m0 : Method := { name := "<init>", desc := "()V", sig := { parameters := [], returnType := none }, accessFlags := 1, code := some k0c0 }
/-- java/lang/Object -/
def k0 : Class := { plain "java/lang/Object" none with
  accessFlags := 33
  interfaces := #[]
  cf := some (fileOf pool0 8 #[] #[{ accessFlags := 1, nameIndex := 5, descriptorIndex := 6, attributes := #[] }] 33 0 #[] #[])
  fields := #[]
  methods := #[k0m0]
  instanceTypes := #[]
  staticTypes := #[]
  resolved := Array.replicate 124 none
  statics := none }

def pool1 : Array CpInfo := pool [(2, .class_ 4), (1, u "java/lang/Object"), (0, u "<init>"), (0, u "()V"), (0, .class_ 8), (0, u "com/example/larch/larch/model/IntervalUnit"), (0, .fieldref 7 10), (0, .nameAndType 11 12), (0, u "DAY"), (0, u "Lcom/example/larch/larch/model/IntervalUnit;"), (0, .fieldref 7 14), (0, .nameAndType 15 12), (0, u "WEEK"), (0, .fieldref 7 17), (0, .nameAndType 18 12), (0, u "MONTH"), (0, .fieldref 7 20), (0, .nameAndType 21 12), (0, u "YEAR"), (0, .integer 2147483647), (0, .methodref 24 25), (0, .class_ 26), (0, .nameAndType 27 28), (0, u "java/lang/Math"), (0, u "max"), (0, u "(II)I"), (0, .class_ 30), (0, u "com/example/larch/larch/model/Interval"), (0, .methodref 29 32), (0, .nameAndType 5 33), (0, u "(Lcom/example/larch/larch/model/IntervalUnit;I)V"), (0, .methodref 35 36), (0, .class_ 37), (0, .nameAndType 38 39), (0, u "java/lang/Integer"), (0, u "valueOf"), (0, u "(I)Ljava/lang/Integer;"), (0, .methodref 29 41), (0, .nameAndType 42 43), (0, u "equals"), (0, u "(Ljava/lang/Object;)Z"), (0, .class_ 45), (0, u "com/example/larch/larch/model/IntervalEqualsPinLaw"), (2, u "law"), (0, u "(IIIII)Z")] 5

def k1m0 : Method := { name := "<init>", desc := "()V", sig := { parameters := [], returnType := none }, accessFlags := 1, code := none }
def k1c1 : Code := { maxStack := 4, maxLocals := 16, code := code, exceptionTable := #[], attributes := #[] }
def k1m1 : Method := { name := "law", desc := "(IIIII)Z", sig := { parameters := [.int, .int, .int, .int, .int], returnType := some .boolean }, accessFlags := 9, code := some k1c1 }
/-- com/example/larch/larch/model/IntervalEqualsPinLaw -/
def k1 : Class := { plain "com/example/larch/larch/model/IntervalEqualsPinLaw" (some 0) with
  accessFlags := 49
  interfaces := #[]
  cf := some (fileOf pool1 44 #[] #[{ accessFlags := 1, nameIndex := 5, descriptorIndex := 6, attributes := #[] }, { accessFlags := 9, nameIndex := 48, descriptorIndex := 49, attributes := #[] }] 49 2 #[] #[])
  fields := #[]
  methods := #[k1m0, k1m1]
  instanceTypes := #[]
  staticTypes := #[]
  resolved := Array.replicate 55 none
  statics := none }

def pool2 : Array CpInfo := pool [(1, .class_ 2), (0, u "java/lang/constant/Constable"), (0, .class_ 4), (0, u "java/lang/Object")] 6

/-- java/lang/constant/Constable -/
def k2 : Class := { plain "java/lang/constant/Constable" (some 0) with
  accessFlags := 1537
  interfaces := #[]
  cf := some (fileOf pool2 1 #[] #[] 1537 3 #[] #[])
  fields := #[]
  methods := #[]
  instanceTypes := #[]
  staticTypes := #[]
  resolved := Array.replicate 11 none
  statics := none }

def pool3 : Array CpInfo := pool [(1, .class_ 2), (0, u "java/lang/Comparable"), (0, .class_ 4), (0, u "java/lang/Object")] 7

/-- java/lang/Comparable -/
def k3 : Class := { plain "java/lang/Comparable" (some 0) with
  accessFlags := 1537
  interfaces := #[]
  cf := some (fileOf pool3 1 #[] #[] 1537 3 #[] #[])
  fields := #[]
  methods := #[]
  instanceTypes := #[]
  staticTypes := #[]
  resolved := Array.replicate 12 none
  statics := none }

def pool4 : Array CpInfo := pool [(1, .class_ 2), (0, u "java/io/Serializable"), (0, .class_ 4), (0, u "java/lang/Object")] 2

/-- java/io/Serializable -/
def k4 : Class := { plain "java/io/Serializable" (some 0) with
  accessFlags := 1537
  interfaces := #[]
  cf := some (fileOf pool4 1 #[] #[] 1537 3 #[] #[])
  fields := #[]
  methods := #[]
  instanceTypes := #[]
  staticTypes := #[]
  resolved := Array.replicate 7 none
  statics := none }

def pool5 : Array CpInfo := pool [(2, .class_ 4), (1, u "java/lang/Enum"), (0, u "name"), (0, u "Ljava/lang/String;"), (2, u "ordinal"), (0, u "I"), (1, .class_ 14), (1, u "java/lang/Object"), (4, u "hash"), (86, .class_ 108), (1, u "java/lang/Enum$EnumDesc"), (2, .class_ 112), (0, u "java/lang/constant/Constable"), (0, .class_ 114), (0, u "java/lang/Comparable"), (0, .class_ 116), (0, u "java/io/Serializable")] 87

/-- java/lang/Enum -/
def k5 : Class := { plain "java/lang/Enum" (some 0) with
  accessFlags := 1057
  interfaces := #[2, 3, 4]
  cf := some (fileOf pool5 2 #[.nestMembers #[106]] #[] 1057 12 #[111, 113, 115] #[{ accessFlags := 18, nameIndex := 5, descriptorIndex := 6, attributes := #[] }, { accessFlags := 18, nameIndex := 9, descriptorIndex := 10, attributes := #[] }, { accessFlags := 2, nameIndex := 19, descriptorIndex := 10, attributes := #[] }])
  fields := #[{ name := "name", type := (.object "java/lang/String"), accessFlags := 18, slot := 0, constantValue := 0 }, { name := "ordinal", type := .int, accessFlags := 18, slot := 1, constantValue := 0 }, { name := "hash", type := .int, accessFlags := 2, slot := 2, constantValue := 0 }]
  methods := #[]
  instanceTypes := #[(.object "java/lang/String"), .int, .int]
  staticTypes := #[]
  resolved := Array.replicate 204 none
  statics := none }

def pool6 : Array CpInfo := pool [(1, .class_ 2), (0, u "com/example/larch/larch/model/IntervalUnit"), (2, u "DAY"), (0, u "Lcom/example/larch/larch/model/IntervalUnit;"), (2, u "WEEK"), (2, u "MONTH"), (2, u "YEAR"), (2, u "$VALUES"), (0, u "[Lcom/example/larch/larch/model/IntervalUnit;"), (6, .class_ 28), (1, u "java/lang/Enum"), (8, u "calendarUnit"), (0, u "Ljava/time/temporal/ChronoUnit;")] 89

/-- com/example/larch/larch/model/IntervalUnit -/
def k6 : Class := { plain "com/example/larch/larch/model/IntervalUnit" (some 5) with
  accessFlags := 16433
  interfaces := #[]
  cf := some (fileOf pool6 1 #[] #[] 16433 26 #[] #[{ accessFlags := 16409, nameIndex := 5, descriptorIndex := 6, attributes := #[] }, { accessFlags := 16409, nameIndex := 9, descriptorIndex := 6, attributes := #[] }, { accessFlags := 16409, nameIndex := 12, descriptorIndex := 6, attributes := #[] }, { accessFlags := 16409, nameIndex := 15, descriptorIndex := 6, attributes := #[] }, { accessFlags := 18, nameIndex := 37, descriptorIndex := 38, attributes := #[] }, { accessFlags := 4122, nameIndex := 18, descriptorIndex := 19, attributes := #[] }])
  fields := #[{ name := "DAY", type := (.object "com/example/larch/larch/model/IntervalUnit"), accessFlags := 16409, slot := 0, constantValue := 0 }, { name := "WEEK", type := (.object "com/example/larch/larch/model/IntervalUnit"), accessFlags := 16409, slot := 1, constantValue := 0 }, { name := "MONTH", type := (.object "com/example/larch/larch/model/IntervalUnit"), accessFlags := 16409, slot := 2, constantValue := 0 }, { name := "YEAR", type := (.object "com/example/larch/larch/model/IntervalUnit"), accessFlags := 16409, slot := 3, constantValue := 0 }, { name := "calendarUnit", type := (.object "java/time/temporal/ChronoUnit"), accessFlags := 18, slot := 3, constantValue := 0 }, { name := "$VALUES", type := (.array (.object "com/example/larch/larch/model/IntervalUnit")), accessFlags := 4122, slot := 4, constantValue := 0 }]
  methods := #[]
  instanceTypes := #[(.object "java/lang/String"), .int, .int, (.object "java/time/temporal/ChronoUnit")]
  staticTypes := #[(.object "com/example/larch/larch/model/IntervalUnit"), (.object "com/example/larch/larch/model/IntervalUnit"), (.object "com/example/larch/larch/model/IntervalUnit"), (.object "com/example/larch/larch/model/IntervalUnit"), (.array (.object "com/example/larch/larch/model/IntervalUnit"))]
  resolved := Array.replicate 128 none
  statics := some 0 }

def pool7 : Array CpInfo := pool [(1, .class_ 2), (0, u "java/lang/Math"), (1, .class_ 6), (1, u "java/lang/Object"), (0, u "<init>"), (0, u "()V"), (89, .class_ 100), (1, u "java/lang/Math$RandomNumberGeneratorHolder"), (71, u "negativeZeroFloatBits"), (0, u "J"), (2, u "negativeZeroDoubleBits"), (21, u "max"), (46, u "$assertionsDisabled"), (0, u "Z"), (88, u "(II)I"), (2, u "twoToTheDoubleScaleDown"), (0, u "D"), (4, u "twoToTheDoubleScaleUp"), (9, u "E"), (3, u "PI"), (2, u "TAU"), (2, u "DEGREES_TO_RADIANS"), (0, u "RADIANS_TO_DEGREES")] 94

def k7m0 : Method := { name := "<init>", desc := "()V", sig := { parameters := [], returnType := none }, accessFlags := 2, code := none }
def k7c1 : Code := { maxStack := 2, maxLocals := 2, code := jdk_29_method_65_code, exceptionTable := #[], attributes := #[] }
def k7m1 : Method := { name := "max", desc := "(II)I", sig := { parameters := [.int, .int], returnType := some .int }, accessFlags := 9, code := some k7c1 }
/-- java/lang/Math -/
def k7 : Class := { plain "java/lang/Math" (some 0) with
  accessFlags := 49
  interfaces := #[]
  cf := some (fileOf pool7 1 #[.nestMembers #[98]] #[{ accessFlags := 2, nameIndex := 7, descriptorIndex := 8, attributes := #[] }, { accessFlags := 9, nameIndex := 198, descriptorIndex := 335, attributes := #[] }] 49 4 #[] #[{ accessFlags := 25, nameIndex := 354, descriptorIndex := 339, attributes := #[] }, { accessFlags := 25, nameIndex := 358, descriptorIndex := 339, attributes := #[] }, { accessFlags := 25, nameIndex := 361, descriptorIndex := 339, attributes := #[] }, { accessFlags := 26, nameIndex := 364, descriptorIndex := 339, attributes := #[] }, { accessFlags := 26, nameIndex := 365, descriptorIndex := 339, attributes := #[] }, { accessFlags := 26, nameIndex := 172, descriptorIndex := 173, attributes := #[] }, { accessFlags := 26, nameIndex := 176, descriptorIndex := 173, attributes := #[] }, { accessFlags := 8, nameIndex := 344, descriptorIndex := 339, attributes := #[] }, { accessFlags := 8, nameIndex := 338, descriptorIndex := 339, attributes := #[] }, { accessFlags := 4120, nameIndex := 245, descriptorIndex := 246, attributes := #[] }])
  fields := #[{ name := "E", type := .double, accessFlags := 25, slot := 0, constantValue := 0 }, { name := "PI", type := .double, accessFlags := 25, slot := 1, constantValue := 0 }, { name := "TAU", type := .double, accessFlags := 25, slot := 2, constantValue := 0 }, { name := "DEGREES_TO_RADIANS", type := .double, accessFlags := 26, slot := 3, constantValue := 0 }, { name := "RADIANS_TO_DEGREES", type := .double, accessFlags := 26, slot := 4, constantValue := 0 }, { name := "negativeZeroFloatBits", type := .long, accessFlags := 26, slot := 5, constantValue := 0 }, { name := "negativeZeroDoubleBits", type := .long, accessFlags := 26, slot := 6, constantValue := 0 }, { name := "twoToTheDoubleScaleUp", type := .double, accessFlags := 8, slot := 7, constantValue := 0 }, { name := "twoToTheDoubleScaleDown", type := .double, accessFlags := 8, slot := 8, constantValue := 0 }, { name := "$assertionsDisabled", type := .boolean, accessFlags := 4120, slot := 9, constantValue := 0 }]
  methods := #[k7m0, k7m1]
  instanceTypes := #[]
  staticTypes := #[.double, .double, .double, .double, .double, .long, .long, .double, .double, .boolean]
  resolved := Array.replicate 460 none
  statics := none }

def pool8 : Array CpInfo := pool [(1, .methodref 2 3), (0, .class_ 4), (0, .nameAndType 5 6), (0, u "java/lang/Object"), (0, u "<init>"), (0, u "()V"), (0, .string 8), (0, u "unit"), (0, .methodref 10 11), (0, .class_ 12), (0, .nameAndType 13 14), (0, u "java/util/Objects"), (0, u "requireNonNull"), (0, u "(Ljava/lang/Object;Ljava/lang/String;)Ljava/lang/Object;"), (9, .fieldref 25 26), (0, .class_ 27), (0, .nameAndType 8 28), (0, u "com/example/larch/larch/model/Interval"), (0, u "Lcom/example/larch/larch/model/IntervalUnit;"), (0, .fieldref 25 30), (0, .nameAndType 31 32), (0, u "length"), (0, u "I"), (32, u "(Lcom/example/larch/larch/model/IntervalUnit;I)V"), (9, u "equals"), (0, u "(Ljava/lang/Object;)Z")] 21

def k8c0 : Code := { maxStack := 3, maxLocals := 3, code := prog_7_method_1_code, exceptionTable := #[], attributes := #[] }
def k8m0 : Method := { name := "<init>", desc := "(Lcom/example/larch/larch/model/IntervalUnit;I)V", sig := { parameters := [(.object "com/example/larch/larch/model/IntervalUnit"), .int], returnType := none }, accessFlags := 1, code := some k8c0 }
def k8c1 : Code := { maxStack := 2, maxLocals := 4, code := prog_7_method_6_code, exceptionTable := #[], attributes := #[] }
def k8m1 : Method := { name := "equals", desc := "(Ljava/lang/Object;)Z", sig := { parameters := [(.object "java/lang/Object")], returnType := some .boolean }, accessFlags := 1, code := some k8c1 }
/-- com/example/larch/larch/model/Interval -/
def k8 : Class := { plain "com/example/larch/larch/model/Interval" (some 0) with
  accessFlags := 49
  interfaces := #[]
  cf := some (fileOf pool8 25 #[] #[{ accessFlags := 1, nameIndex := 5, descriptorIndex := 65, attributes := #[] }, { accessFlags := 1, nameIndex := 75, descriptorIndex := 76, attributes := #[] }] 49 2 #[] #[{ accessFlags := 18, nameIndex := 8, descriptorIndex := 28, attributes := #[] }, { accessFlags := 18, nameIndex := 31, descriptorIndex := 32, attributes := #[] }])
  fields := #[{ name := "unit", type := (.object "com/example/larch/larch/model/IntervalUnit"), accessFlags := 18, slot := 0, constantValue := 0 }, { name := "length", type := .int, accessFlags := 18, slot := 1, constantValue := 0 }]
  methods := #[k8m0, k8m1]
  instanceTypes := #[(.object "com/example/larch/larch/model/IntervalUnit"), .int]
  staticTypes := #[]
  resolved := Array.replicate 98 none
  statics := none }

def pool9 : Array CpInfo := pool [(2, .class_ 4), (1, u "java/lang/CharSequence"), (42, .class_ 48), (0, u "java/lang/CharSequence$1CodePointIterator"), (10, .class_ 60), (0, u "java/lang/CharSequence$1CharIterator"), (5, .class_ 67), (0, u "java/lang/Object")] 63

/-- java/lang/CharSequence -/
def k9 : Class := { plain "java/lang/CharSequence" (some 0) with
  accessFlags := 1537
  interfaces := #[]
  cf := some (fileOf pool9 2 #[.nestMembers #[47, 59]] #[] 1537 66 #[] #[])
  fields := #[]
  methods := #[]
  instanceTypes := #[]
  staticTypes := #[]
  resolved := Array.replicate 131 none
  statics := none }

def pool10 : Array CpInfo := pool [(1, .class_ 2), (0, u "java/lang/constant/ConstantDesc"), (0, .class_ 4), (0, u "java/lang/Object")] 32

/-- java/lang/constant/ConstantDesc -/
def k10 : Class := { plain "java/lang/constant/ConstantDesc" (some 0) with
  accessFlags := 1537
  interfaces := #[]
  cf := some (fileOf pool10 1 #[] #[] 1537 3 #[] #[])
  fields := #[]
  methods := #[]
  instanceTypes := #[]
  staticTypes := #[]
  resolved := Array.replicate 37 none
  statics := none }

def pool11 : Array CpInfo := pool [(2, .class_ 4), (1, u "java/lang/Object"), (0, u "<init>"), (0, u "()V"), (3, .class_ 12), (1, u "java/lang/String"), (0, u "value"), (0, u "[B"), (2, u "coder"), (0, u "B"), (2, u "hash"), (0, u "I"), (2, u "hashIsZero"), (0, u "Z"), (13, u "COMPACT_STRINGS"), (534, .class_ 576), (0, u "java/lang/CharSequence"), (22, u "CASE_INSENSITIVE_ORDER"), (0, u "Ljava/util/Comparator;"), (500, u "serialPersistentFields"), (0, u "[Ljava/io/ObjectStreamField;"), (0, .class_ 1104), (0, u "java/lang/String$CaseInsensitiveComparator"), (1, .class_ 1107), (0, u "java/io/Serializable"), (0, .class_ 1109), (0, u "java/lang/Comparable"), (0, .class_ 1111), (0, u "java/lang/constant/Constable"), (0, .class_ 1113), (0, u "java/lang/constant/ConstantDesc"), (2, u "serialVersionUID"), (0, u "J"), (3, u "REPL"), (0, u "C"), (2, u "LATIN1"), (1, u "UTF16")] 323

def k11m0 : Method := { name := "<init>", desc := "()V", sig := { parameters := [], returnType := none }, accessFlags := 1, code := none }
/-- java/lang/String -/
def k11 : Class := { plain "java/lang/String" (some 0) with
  accessFlags := 49
  interfaces := #[4, 3, 9, 2, 10]
  cf := some (fileOf pool11 10 #[.nestMembers #[1103]] #[{ accessFlags := 1, nameIndex := 5, descriptorIndex := 6, attributes := #[] }] 49 2 #[1106, 1108, 575, 1110, 1112] #[{ accessFlags := 18, nameIndex := 13, descriptorIndex := 14, attributes := #[] }, { accessFlags := 18, nameIndex := 17, descriptorIndex := 18, attributes := #[] }, { accessFlags := 2, nameIndex := 21, descriptorIndex := 22, attributes := #[] }, { accessFlags := 2, nameIndex := 25, descriptorIndex := 26, attributes := #[] }, { accessFlags := 26, nameIndex := 1116, descriptorIndex := 1117, attributes := #[] }, { accessFlags := 24, nameIndex := 40, descriptorIndex := 26, attributes := #[] }, { accessFlags := 26, nameIndex := 1101, descriptorIndex := 1102, attributes := #[] }, { accessFlags := 26, nameIndex := 1121, descriptorIndex := 1122, attributes := #[] }, { accessFlags := 25, nameIndex := 599, descriptorIndex := 600, attributes := #[] }, { accessFlags := 24, nameIndex := 1125, descriptorIndex := 18, attributes := #[] }, { accessFlags := 24, nameIndex := 1127, descriptorIndex := 18, attributes := #[] }])
  fields := #[{ name := "value", type := (.array .byte), accessFlags := 18, slot := 0, constantValue := 0 }, { name := "coder", type := .byte, accessFlags := 18, slot := 1, constantValue := 0 }, { name := "hash", type := .int, accessFlags := 2, slot := 2, constantValue := 0 }, { name := "hashIsZero", type := .boolean, accessFlags := 2, slot := 3, constantValue := 0 }, { name := "serialVersionUID", type := .long, accessFlags := 26, slot := 0, constantValue := 0 }, { name := "COMPACT_STRINGS", type := .boolean, accessFlags := 24, slot := 1, constantValue := 0 }, { name := "serialPersistentFields", type := (.array (.object "java/io/ObjectStreamField")), accessFlags := 26, slot := 2, constantValue := 0 }, { name := "REPL", type := .char, accessFlags := 26, slot := 3, constantValue := 0 }, { name := "CASE_INSENSITIVE_ORDER", type := (.object "java/util/Comparator"), accessFlags := 25, slot := 4, constantValue := 0 }, { name := "LATIN1", type := .byte, accessFlags := 24, slot := 5, constantValue := 0 }, { name := "UTF16", type := .byte, accessFlags := 24, slot := 6, constantValue := 0 }]
  methods := #[k11m0]
  instanceTypes := #[(.array .byte), .byte, .int, .boolean]
  staticTypes := #[.long, .boolean, (.array (.object "java/io/ObjectStreamField")), .char, (.object "java/util/Comparator"), .byte, .byte]
  resolved := Array.replicate 1451 none
  statics := none }

def pool12 : Array CpInfo := pool [(2, .class_ 4), (1, u "java/lang/Object"), (0, u "<init>"), (0, u "()V"), (35, .class_ 44), (1, u "java/util/Objects"), (0, u "requireNonNull"), (48, u "(Ljava/lang/Object;Ljava/lang/String;)Ljava/lang/Object;")] 89

def k12m0 : Method := { name := "<init>", desc := "()V", sig := { parameters := [], returnType := none }, accessFlags := 2, code := none }
def k12c1 : Code := { maxStack := 3, maxLocals := 2, code := jdk_31_method_11_code, exceptionTable := #[], attributes := #[] }
def k12m1 : Method := { name := "requireNonNull", desc := "(Ljava/lang/Object;Ljava/lang/String;)Ljava/lang/Object;", sig := { parameters := [(.object "java/lang/Object"), (.object "java/lang/String")], returnType := some (.object "java/lang/Object") }, accessFlags := 9, code := some k12c1 }
/-- java/util/Objects -/
def k12 : Class := { plain "java/util/Objects" (some 0) with
  accessFlags := 49
  interfaces := #[]
  cf := some (fileOf pool12 42 #[] #[{ accessFlags := 2, nameIndex := 5, descriptorIndex := 6, attributes := #[] }, { accessFlags := 9, nameIndex := 45, descriptorIndex := 94, attributes := #[] }] 49 2 #[] #[])
  fields := #[]
  methods := #[k12m0, k12m1]
  instanceTypes := #[]
  staticTypes := #[]
  resolved := Array.replicate 184 none
  statics := none }

def pool13 : Array CpInfo := pool [(1, .methodref 2 3), (0, .class_ 4), (0, .nameAndType 5 6), (0, u "java/lang/Object"), (0, u "<init>"), (0, u "()V"), (1, .class_ 10), (1, u "java/lang/Number"), (2, .class_ 14), (0, u "java/io/Serializable"), (0, u "serialVersionUID"), (0, u "J")] 20

def k13c0 : Code := { maxStack := 1, maxLocals := 1, code := jdk_18_method_1_code, exceptionTable := #[], attributes := #[] }
def k13m0 : Method := { name := "<init>", desc := "()V", sig := { parameters := [], returnType := none }, accessFlags := 1, code := some k13c0 }
/-- java/lang/Number -/
def k13 : Class := { plain "java/lang/Number" (some 0) with
  accessFlags := 1057
  interfaces := #[4]
  cf := some (fileOf pool13 8 #[] #[{ accessFlags := 1, nameIndex := 5, descriptorIndex := 6, attributes := #[] }] 1057 2 #[13] #[{ accessFlags := 26, nameIndex := 15, descriptorIndex := 16, attributes := #[] }])
  fields := #[{ name := "serialVersionUID", type := .long, accessFlags := 26, slot := 0, constantValue := 0 }]
  methods := #[k13m0]
  instanceTypes := #[]
  staticTypes := #[.long]
  resolved := Array.replicate 37 none
  statics := none }

def pool14 : Array CpInfo := pool [(1, .class_ 2), (0, u "java/lang/Integer"), (16, u "digits"), (0, u "[C"), (46, u "<init>"), (17, u "DigitOnes"), (0, u "[B"), (2, u "DigitTens"), (10, .nameAndType 67 101), (0, u "()V"), (85, u "valueOf"), (0, u "(I)Ljava/lang/Integer;"), (0, .class_ 190), (0, u "java/lang/Integer$IntegerCache"), (0, .fieldref 189 192), (0, .nameAndType 193 194), (0, u "high"), (0, u "I"), (0, .fieldref 189 196), (0, .nameAndType 197 198), (0, u "cache"), (0, u "[Ljava/lang/Integer;"), (0, .methodref 1 200), (0, .nameAndType 67 201), (0, u "(I)V"), (0, .methodref 203 100), (0, .class_ 204), (0, u "java/lang/Number"), (0, .fieldref 1 206), (0, .nameAndType 207 194), (0, u "value"), (94, u "TYPE"), (0, u "Ljava/lang/Class;"), (0, .class_ 305), (0, u "java/lang/Comparable"), (0, .class_ 307), (0, u "java/lang/constant/Constable"), (0, .class_ 309), (0, u "java/lang/constant/ConstantDesc"), (0, u "MIN_VALUE"), (1, u "MAX_VALUE"), (3, u "SIZE"), (1, u "BYTES"), (1, u "serialVersionUID"), (0, u "J")] 131

def k14c0 : Code := { maxStack := 3, maxLocals := 1, code := jdk_33_method_22_code, exceptionTable := #[], attributes := #[] }
def k14m0 : Method := { name := "valueOf", desc := "(I)Ljava/lang/Integer;", sig := { parameters := [.int], returnType := some (.object "java/lang/Integer") }, accessFlags := 9, code := some k14c0 }
def k14c1 : Code := { maxStack := 2, maxLocals := 2, code := jdk_33_method_23_code, exceptionTable := #[], attributes := #[] }
def k14m1 : Method := { name := "<init>", desc := "(I)V", sig := { parameters := [.int], returnType := none }, accessFlags := 1, code := some k14c1 }
/-- java/lang/Integer -/
def k14 : Class := { plain "java/lang/Integer" (some 13) with
  accessFlags := 49
  interfaces := #[3, 2, 10]
  cf := some (fileOf pool14 1 #[.nestMembers #[189]] #[{ accessFlags := 9, nameIndex := 187, descriptorIndex := 188, attributes := #[] }, { accessFlags := 1, nameIndex := 67, descriptorIndex := 201, attributes := #[] }] 49 203 #[304, 306, 308] #[{ accessFlags := 25, nameIndex := 310, descriptorIndex := 194, attributes := #[] }, { accessFlags := 25, nameIndex := 312, descriptorIndex := 194, attributes := #[] }, { accessFlags := 25, nameIndex := 302, descriptorIndex := 303, attributes := #[] }, { accessFlags := 24, nameIndex := 19, descriptorIndex := 20, attributes := #[] }, { accessFlags := 24, nameIndex := 89, descriptorIndex := 86, attributes := #[] }, { accessFlags := 24, nameIndex := 85, descriptorIndex := 86, attributes := #[] }, { accessFlags := 18, nameIndex := 207, descriptorIndex := 194, attributes := #[] }, { accessFlags := 25, nameIndex := 316, descriptorIndex := 194, attributes := #[] }, { accessFlags := 25, nameIndex := 318, descriptorIndex := 194, attributes := #[] }, { accessFlags := 26, nameIndex := 320, descriptorIndex := 321, attributes := #[] }])
  fields := #[{ name := "MIN_VALUE", type := .int, accessFlags := 25, slot := 0, constantValue := 0 }, { name := "MAX_VALUE", type := .int, accessFlags := 25, slot := 1, constantValue := 0 }, { name := "TYPE", type := (.object "java/lang/Class"), accessFlags := 25, slot := 2, constantValue := 0 }, { name := "digits", type := (.array .char), accessFlags := 24, slot := 3, constantValue := 0 }, { name := "DigitTens", type := (.array .byte), accessFlags := 24, slot := 4, constantValue := 0 }, { name := "DigitOnes", type := (.array .byte), accessFlags := 24, slot := 5, constantValue := 0 }, { name := "value", type := .int, accessFlags := 18, slot := 0, constantValue := 0 }, { name := "SIZE", type := .int, accessFlags := 25, slot := 6, constantValue := 0 }, { name := "BYTES", type := .int, accessFlags := 25, slot := 7, constantValue := 0 }, { name := "serialVersionUID", type := .long, accessFlags := 26, slot := 8, constantValue := 0 }]
  methods := #[k14m0, k14m1]
  instanceTypes := #[.int]
  staticTypes := #[.int, .int, (.object "java/lang/Class"), (.array .char), (.array .byte), (.array .byte), .int, .int, .long]
  resolved := Array.replicate 453 none
  statics := none }

def pool15 : Array CpInfo := pool [(2, .class_ 4), (1, u "java/lang/Object"), (0, u "<init>"), (0, u "()V"), (0, .class_ 8), (0, u "java/lang/Integer"), (7, .class_ 18), (1, u "java/lang/Integer$IntegerCache"), (0, u "$assertionsDisabled"), (0, u "Z"), (26, u "high"), (0, u "I"), (8, u "archivedCache"), (0, u "[Ljava/lang/Integer;"), (12, u "cache"), (0, u "low")] 27

def k15m0 : Method := { name := "<init>", desc := "()V", sig := { parameters := [], returnType := none }, accessFlags := 2, code := none }
/-- java/lang/Integer$IntegerCache -/
def k15 : Class := { plain "java/lang/Integer$IntegerCache" (some 0) with
  accessFlags := 48
  interfaces := #[]
  cf := some (fileOf pool15 16 #[.nestHost 7] #[{ accessFlags := 2, nameIndex := 5, descriptorIndex := 6, attributes := #[] }] 48 2 #[] #[{ accessFlags := 24, nameIndex := 72, descriptorIndex := 48, attributes := #[] }, { accessFlags := 24, nameIndex := 47, descriptorIndex := 48, attributes := #[] }, { accessFlags := 24, nameIndex := 71, descriptorIndex := 58, attributes := #[] }, { accessFlags := 8, nameIndex := 57, descriptorIndex := 58, attributes := #[] }, { accessFlags := 4120, nameIndex := 19, descriptorIndex := 20, attributes := #[] }])
  fields := #[{ name := "low", type := .int, accessFlags := 24, slot := 0, constantValue := 0 }, { name := "high", type := .int, accessFlags := 24, slot := 1, constantValue := 0 }, { name := "cache", type := (.array (.object "java/lang/Integer")), accessFlags := 24, slot := 2, constantValue := 0 }, { name := "archivedCache", type := (.array (.object "java/lang/Integer")), accessFlags := 8, slot := 3, constantValue := 0 }, { name := "$assertionsDisabled", type := .boolean, accessFlags := 4120, slot := 4, constantValue := 0 }]
  methods := #[k15m0]
  instanceTypes := #[]
  staticTypes := #[.int, .int, (.array (.object "java/lang/Integer")), (.array (.object "java/lang/Integer")), .boolean]
  resolved := Array.replicate 100 none
  statics := some 1 }

def pool16 : Array CpInfo := pool [(1, u "java/lang/Cloneable"), (0, .class_ 1), (0, u "java/lang/Object"), (0, .class_ 3)] 3

/-- java/lang/Cloneable -/
def k16 : Class := { plain "java/lang/Cloneable" (some 0) with
  accessFlags := 1537
  interfaces := #[]
  cf := some (fileOf pool16 2 #[] #[] 1537 4 #[] #[])
  fields := #[]
  methods := #[]
  instanceTypes := #[]
  staticTypes := #[]
  resolved := Array.replicate 8 none
  statics := none }

/-- the primitive byte -/
def k17 : Class := { plain "byte" none with kind := .primitive 'B', accessFlags := 0x411 }
/-- [B -/
def k18 : Class := { plain "[B" (some 0) with kind := .array 17 .byte, interfaces := #[16, 4], accessFlags := 1041 }

/-- the primitive int -/
def k19 : Class := { plain "int" none with kind := .primitive 'I', accessFlags := 0x411 }
/-- [I -/
def k20 : Class := { plain "[I" (some 0) with kind := .array 19 .int, interfaces := #[16, 4], accessFlags := 1041 }

/-- [Lcom/example/larch/larch/model/IntervalUnit; -/
def k21 : Class := { plain "[Lcom/example/larch/larch/model/IntervalUnit;" (some 0) with kind := .array 6 (.object "com/example/larch/larch/model/IntervalUnit"), interfaces := #[16, 4], accessFlags := 1041 }

/-- [Ljava/lang/Integer; -/
def k22 : Class := { plain "[Ljava/lang/Integer;" (some 0) with kind := .array 14 (.object "java/lang/Integer"), interfaces := #[16, 4], accessFlags := 1041 }

def heap : Heap := #[{ cls := 6, slots := #[.ref 3, .ref 4, .ref 5, .ref 6, .null], vm := .statics 6 },
  { cls := 15, slots := #[.int 0, .int 127, .ref 2, .null, .int 0], vm := .statics 15 },
  { cls := 22, slots := #[.ref 7, .ref 8, .ref 9, .ref 10, .ref 11, .ref 12, .ref 13, .ref 14, .ref 15, .ref 16, .ref 17, .ref 18, .ref 19, .ref 20, .ref 21, .ref 22, .ref 23, .ref 24, .ref 25, .ref 26, .ref 27, .ref 28, .ref 29, .ref 30, .ref 31, .ref 32, .ref 33, .ref 34, .ref 35, .ref 36, .ref 37, .ref 38, .ref 39, .ref 40, .ref 41, .ref 42, .ref 43, .ref 44, .ref 45, .ref 46, .ref 47, .ref 48, .ref 49, .ref 50, .ref 51, .ref 52, .ref 53, .ref 54, .ref 55, .ref 56, .ref 57, .ref 58, .ref 59, .ref 60, .ref 61, .ref 62, .ref 63, .ref 64, .ref 65, .ref 66, .ref 67, .ref 68, .ref 69, .ref 70, .ref 71, .ref 72, .ref 73, .ref 74, .ref 75, .ref 76, .ref 77, .ref 78, .ref 79, .ref 80, .ref 81, .ref 82, .ref 83, .ref 84, .ref 85, .ref 86, .ref 87, .ref 88, .ref 89, .ref 90, .ref 91, .ref 92, .ref 93, .ref 94, .ref 95, .ref 96, .ref 97, .ref 98, .ref 99, .ref 100, .ref 101, .ref 102, .ref 103, .ref 104, .ref 105, .ref 106, .ref 107, .ref 108, .ref 109, .ref 110, .ref 111, .ref 112, .ref 113, .ref 114, .ref 115, .ref 116, .ref 117, .ref 118, .ref 119, .ref 120, .ref 121, .ref 122, .ref 123, .ref 124, .ref 125, .ref 126, .ref 127, .ref 128, .ref 129, .ref 130, .ref 131, .ref 132, .ref 133, .ref 134, .ref 135, .ref 136, .ref 137, .ref 138, .ref 139, .ref 140, .ref 141, .ref 142, .ref 143, .ref 144, .ref 145, .ref 146, .ref 147, .ref 148, .ref 149, .ref 150, .ref 151, .ref 152, .ref 153, .ref 154, .ref 155, .ref 156, .ref 157, .ref 158, .ref 159, .ref 160, .ref 161, .ref 162, .ref 163, .ref 164, .ref 165, .ref 166, .ref 167, .ref 168, .ref 169, .ref 170, .ref 171, .ref 172, .ref 173, .ref 174, .ref 175, .ref 176, .ref 177, .ref 178, .ref 179, .ref 180, .ref 181, .ref 182, .ref 183, .ref 184, .ref 185, .ref 186, .ref 187, .ref 188, .ref 189, .ref 190, .ref 191, .ref 192, .ref 193, .ref 194, .ref 195, .ref 196, .ref 197, .ref 198, .ref 199, .ref 200, .ref 201, .ref 202, .ref 203, .ref 204, .ref 205, .ref 206, .ref 207, .ref 208, .ref 209, .ref 210, .ref 211, .ref 212, .ref 213, .ref 214, .ref 215, .ref 216, .ref 217, .ref 218, .ref 219, .ref 220, .ref 221, .ref 222, .ref 223, .ref 224, .ref 225, .ref 226, .ref 227, .ref 228, .ref 229, .ref 230, .ref 231, .ref 232, .ref 233, .ref 234, .ref 235, .ref 236, .ref 237, .ref 238, .ref 239, .ref 240, .ref 241, .ref 242, .ref 243, .ref 244, .ref 245, .ref 246, .ref 247, .ref 248, .ref 249, .ref 250, .ref 251, .ref 252, .ref 253, .ref 254, .ref 255, .ref 256, .ref 257, .ref 258, .ref 259, .ref 260, .ref 261, .ref 262], vm := .none },
  { cls := 6, slots := #[.null, .int 0, .int 0, .null], vm := .none },
  { cls := 6, slots := #[.null, .int 1, .int 0, .null], vm := .none },
  { cls := 6, slots := #[.null, .int 2, .int 0, .null], vm := .none },
  { cls := 6, slots := #[.null, .int 3, .int 0, .null], vm := .none },
  { cls := 14, slots := #[.int (-128)], vm := .none },
  { cls := 14, slots := #[.int (-127)], vm := .none },
  { cls := 14, slots := #[.int (-126)], vm := .none },
  { cls := 14, slots := #[.int (-125)], vm := .none },
  { cls := 14, slots := #[.int (-124)], vm := .none },
  { cls := 14, slots := #[.int (-123)], vm := .none },
  { cls := 14, slots := #[.int (-122)], vm := .none },
  { cls := 14, slots := #[.int (-121)], vm := .none },
  { cls := 14, slots := #[.int (-120)], vm := .none },
  { cls := 14, slots := #[.int (-119)], vm := .none },
  { cls := 14, slots := #[.int (-118)], vm := .none },
  { cls := 14, slots := #[.int (-117)], vm := .none },
  { cls := 14, slots := #[.int (-116)], vm := .none },
  { cls := 14, slots := #[.int (-115)], vm := .none },
  { cls := 14, slots := #[.int (-114)], vm := .none },
  { cls := 14, slots := #[.int (-113)], vm := .none },
  { cls := 14, slots := #[.int (-112)], vm := .none },
  { cls := 14, slots := #[.int (-111)], vm := .none },
  { cls := 14, slots := #[.int (-110)], vm := .none },
  { cls := 14, slots := #[.int (-109)], vm := .none },
  { cls := 14, slots := #[.int (-108)], vm := .none },
  { cls := 14, slots := #[.int (-107)], vm := .none },
  { cls := 14, slots := #[.int (-106)], vm := .none },
  { cls := 14, slots := #[.int (-105)], vm := .none },
  { cls := 14, slots := #[.int (-104)], vm := .none },
  { cls := 14, slots := #[.int (-103)], vm := .none },
  { cls := 14, slots := #[.int (-102)], vm := .none },
  { cls := 14, slots := #[.int (-101)], vm := .none },
  { cls := 14, slots := #[.int (-100)], vm := .none },
  { cls := 14, slots := #[.int (-99)], vm := .none },
  { cls := 14, slots := #[.int (-98)], vm := .none },
  { cls := 14, slots := #[.int (-97)], vm := .none },
  { cls := 14, slots := #[.int (-96)], vm := .none },
  { cls := 14, slots := #[.int (-95)], vm := .none },
  { cls := 14, slots := #[.int (-94)], vm := .none },
  { cls := 14, slots := #[.int (-93)], vm := .none },
  { cls := 14, slots := #[.int (-92)], vm := .none },
  { cls := 14, slots := #[.int (-91)], vm := .none },
  { cls := 14, slots := #[.int (-90)], vm := .none },
  { cls := 14, slots := #[.int (-89)], vm := .none },
  { cls := 14, slots := #[.int (-88)], vm := .none },
  { cls := 14, slots := #[.int (-87)], vm := .none },
  { cls := 14, slots := #[.int (-86)], vm := .none },
  { cls := 14, slots := #[.int (-85)], vm := .none },
  { cls := 14, slots := #[.int (-84)], vm := .none },
  { cls := 14, slots := #[.int (-83)], vm := .none },
  { cls := 14, slots := #[.int (-82)], vm := .none },
  { cls := 14, slots := #[.int (-81)], vm := .none },
  { cls := 14, slots := #[.int (-80)], vm := .none },
  { cls := 14, slots := #[.int (-79)], vm := .none },
  { cls := 14, slots := #[.int (-78)], vm := .none },
  { cls := 14, slots := #[.int (-77)], vm := .none },
  { cls := 14, slots := #[.int (-76)], vm := .none },
  { cls := 14, slots := #[.int (-75)], vm := .none },
  { cls := 14, slots := #[.int (-74)], vm := .none },
  { cls := 14, slots := #[.int (-73)], vm := .none },
  { cls := 14, slots := #[.int (-72)], vm := .none },
  { cls := 14, slots := #[.int (-71)], vm := .none },
  { cls := 14, slots := #[.int (-70)], vm := .none },
  { cls := 14, slots := #[.int (-69)], vm := .none },
  { cls := 14, slots := #[.int (-68)], vm := .none },
  { cls := 14, slots := #[.int (-67)], vm := .none },
  { cls := 14, slots := #[.int (-66)], vm := .none },
  { cls := 14, slots := #[.int (-65)], vm := .none },
  { cls := 14, slots := #[.int (-64)], vm := .none },
  { cls := 14, slots := #[.int (-63)], vm := .none },
  { cls := 14, slots := #[.int (-62)], vm := .none },
  { cls := 14, slots := #[.int (-61)], vm := .none },
  { cls := 14, slots := #[.int (-60)], vm := .none },
  { cls := 14, slots := #[.int (-59)], vm := .none },
  { cls := 14, slots := #[.int (-58)], vm := .none },
  { cls := 14, slots := #[.int (-57)], vm := .none },
  { cls := 14, slots := #[.int (-56)], vm := .none },
  { cls := 14, slots := #[.int (-55)], vm := .none },
  { cls := 14, slots := #[.int (-54)], vm := .none },
  { cls := 14, slots := #[.int (-53)], vm := .none },
  { cls := 14, slots := #[.int (-52)], vm := .none },
  { cls := 14, slots := #[.int (-51)], vm := .none },
  { cls := 14, slots := #[.int (-50)], vm := .none },
  { cls := 14, slots := #[.int (-49)], vm := .none },
  { cls := 14, slots := #[.int (-48)], vm := .none },
  { cls := 14, slots := #[.int (-47)], vm := .none },
  { cls := 14, slots := #[.int (-46)], vm := .none },
  { cls := 14, slots := #[.int (-45)], vm := .none },
  { cls := 14, slots := #[.int (-44)], vm := .none },
  { cls := 14, slots := #[.int (-43)], vm := .none },
  { cls := 14, slots := #[.int (-42)], vm := .none },
  { cls := 14, slots := #[.int (-41)], vm := .none },
  { cls := 14, slots := #[.int (-40)], vm := .none },
  { cls := 14, slots := #[.int (-39)], vm := .none },
  { cls := 14, slots := #[.int (-38)], vm := .none },
  { cls := 14, slots := #[.int (-37)], vm := .none },
  { cls := 14, slots := #[.int (-36)], vm := .none },
  { cls := 14, slots := #[.int (-35)], vm := .none },
  { cls := 14, slots := #[.int (-34)], vm := .none },
  { cls := 14, slots := #[.int (-33)], vm := .none },
  { cls := 14, slots := #[.int (-32)], vm := .none },
  { cls := 14, slots := #[.int (-31)], vm := .none },
  { cls := 14, slots := #[.int (-30)], vm := .none },
  { cls := 14, slots := #[.int (-29)], vm := .none },
  { cls := 14, slots := #[.int (-28)], vm := .none },
  { cls := 14, slots := #[.int (-27)], vm := .none },
  { cls := 14, slots := #[.int (-26)], vm := .none },
  { cls := 14, slots := #[.int (-25)], vm := .none },
  { cls := 14, slots := #[.int (-24)], vm := .none },
  { cls := 14, slots := #[.int (-23)], vm := .none },
  { cls := 14, slots := #[.int (-22)], vm := .none },
  { cls := 14, slots := #[.int (-21)], vm := .none },
  { cls := 14, slots := #[.int (-20)], vm := .none },
  { cls := 14, slots := #[.int (-19)], vm := .none },
  { cls := 14, slots := #[.int (-18)], vm := .none },
  { cls := 14, slots := #[.int (-17)], vm := .none },
  { cls := 14, slots := #[.int (-16)], vm := .none },
  { cls := 14, slots := #[.int (-15)], vm := .none },
  { cls := 14, slots := #[.int (-14)], vm := .none },
  { cls := 14, slots := #[.int (-13)], vm := .none },
  { cls := 14, slots := #[.int (-12)], vm := .none },
  { cls := 14, slots := #[.int (-11)], vm := .none },
  { cls := 14, slots := #[.int (-10)], vm := .none },
  { cls := 14, slots := #[.int (-9)], vm := .none },
  { cls := 14, slots := #[.int (-8)], vm := .none },
  { cls := 14, slots := #[.int (-7)], vm := .none },
  { cls := 14, slots := #[.int (-6)], vm := .none },
  { cls := 14, slots := #[.int (-5)], vm := .none },
  { cls := 14, slots := #[.int (-4)], vm := .none },
  { cls := 14, slots := #[.int (-3)], vm := .none },
  { cls := 14, slots := #[.int (-2)], vm := .none },
  { cls := 14, slots := #[.int (-1)], vm := .none },
  { cls := 14, slots := #[.int 0], vm := .none },
  { cls := 14, slots := #[.int 1], vm := .none },
  { cls := 14, slots := #[.int 2], vm := .none },
  { cls := 14, slots := #[.int 3], vm := .none },
  { cls := 14, slots := #[.int 4], vm := .none },
  { cls := 14, slots := #[.int 5], vm := .none },
  { cls := 14, slots := #[.int 6], vm := .none },
  { cls := 14, slots := #[.int 7], vm := .none },
  { cls := 14, slots := #[.int 8], vm := .none },
  { cls := 14, slots := #[.int 9], vm := .none },
  { cls := 14, slots := #[.int 10], vm := .none },
  { cls := 14, slots := #[.int 11], vm := .none },
  { cls := 14, slots := #[.int 12], vm := .none },
  { cls := 14, slots := #[.int 13], vm := .none },
  { cls := 14, slots := #[.int 14], vm := .none },
  { cls := 14, slots := #[.int 15], vm := .none },
  { cls := 14, slots := #[.int 16], vm := .none },
  { cls := 14, slots := #[.int 17], vm := .none },
  { cls := 14, slots := #[.int 18], vm := .none },
  { cls := 14, slots := #[.int 19], vm := .none },
  { cls := 14, slots := #[.int 20], vm := .none },
  { cls := 14, slots := #[.int 21], vm := .none },
  { cls := 14, slots := #[.int 22], vm := .none },
  { cls := 14, slots := #[.int 23], vm := .none },
  { cls := 14, slots := #[.int 24], vm := .none },
  { cls := 14, slots := #[.int 25], vm := .none },
  { cls := 14, slots := #[.int 26], vm := .none },
  { cls := 14, slots := #[.int 27], vm := .none },
  { cls := 14, slots := #[.int 28], vm := .none },
  { cls := 14, slots := #[.int 29], vm := .none },
  { cls := 14, slots := #[.int 30], vm := .none },
  { cls := 14, slots := #[.int 31], vm := .none },
  { cls := 14, slots := #[.int 32], vm := .none },
  { cls := 14, slots := #[.int 33], vm := .none },
  { cls := 14, slots := #[.int 34], vm := .none },
  { cls := 14, slots := #[.int 35], vm := .none },
  { cls := 14, slots := #[.int 36], vm := .none },
  { cls := 14, slots := #[.int 37], vm := .none },
  { cls := 14, slots := #[.int 38], vm := .none },
  { cls := 14, slots := #[.int 39], vm := .none },
  { cls := 14, slots := #[.int 40], vm := .none },
  { cls := 14, slots := #[.int 41], vm := .none },
  { cls := 14, slots := #[.int 42], vm := .none },
  { cls := 14, slots := #[.int 43], vm := .none },
  { cls := 14, slots := #[.int 44], vm := .none },
  { cls := 14, slots := #[.int 45], vm := .none },
  { cls := 14, slots := #[.int 46], vm := .none },
  { cls := 14, slots := #[.int 47], vm := .none },
  { cls := 14, slots := #[.int 48], vm := .none },
  { cls := 14, slots := #[.int 49], vm := .none },
  { cls := 14, slots := #[.int 50], vm := .none },
  { cls := 14, slots := #[.int 51], vm := .none },
  { cls := 14, slots := #[.int 52], vm := .none },
  { cls := 14, slots := #[.int 53], vm := .none },
  { cls := 14, slots := #[.int 54], vm := .none },
  { cls := 14, slots := #[.int 55], vm := .none },
  { cls := 14, slots := #[.int 56], vm := .none },
  { cls := 14, slots := #[.int 57], vm := .none },
  { cls := 14, slots := #[.int 58], vm := .none },
  { cls := 14, slots := #[.int 59], vm := .none },
  { cls := 14, slots := #[.int 60], vm := .none },
  { cls := 14, slots := #[.int 61], vm := .none },
  { cls := 14, slots := #[.int 62], vm := .none },
  { cls := 14, slots := #[.int 63], vm := .none },
  { cls := 14, slots := #[.int 64], vm := .none },
  { cls := 14, slots := #[.int 65], vm := .none },
  { cls := 14, slots := #[.int 66], vm := .none },
  { cls := 14, slots := #[.int 67], vm := .none },
  { cls := 14, slots := #[.int 68], vm := .none },
  { cls := 14, slots := #[.int 69], vm := .none },
  { cls := 14, slots := #[.int 70], vm := .none },
  { cls := 14, slots := #[.int 71], vm := .none },
  { cls := 14, slots := #[.int 72], vm := .none },
  { cls := 14, slots := #[.int 73], vm := .none },
  { cls := 14, slots := #[.int 74], vm := .none },
  { cls := 14, slots := #[.int 75], vm := .none },
  { cls := 14, slots := #[.int 76], vm := .none },
  { cls := 14, slots := #[.int 77], vm := .none },
  { cls := 14, slots := #[.int 78], vm := .none },
  { cls := 14, slots := #[.int 79], vm := .none },
  { cls := 14, slots := #[.int 80], vm := .none },
  { cls := 14, slots := #[.int 81], vm := .none },
  { cls := 14, slots := #[.int 82], vm := .none },
  { cls := 14, slots := #[.int 83], vm := .none },
  { cls := 14, slots := #[.int 84], vm := .none },
  { cls := 14, slots := #[.int 85], vm := .none },
  { cls := 14, slots := #[.int 86], vm := .none },
  { cls := 14, slots := #[.int 87], vm := .none },
  { cls := 14, slots := #[.int 88], vm := .none },
  { cls := 14, slots := #[.int 89], vm := .none },
  { cls := 14, slots := #[.int 90], vm := .none },
  { cls := 14, slots := #[.int 91], vm := .none },
  { cls := 14, slots := #[.int 92], vm := .none },
  { cls := 14, slots := #[.int 93], vm := .none },
  { cls := 14, slots := #[.int 94], vm := .none },
  { cls := 14, slots := #[.int 95], vm := .none },
  { cls := 14, slots := #[.int 96], vm := .none },
  { cls := 14, slots := #[.int 97], vm := .none },
  { cls := 14, slots := #[.int 98], vm := .none },
  { cls := 14, slots := #[.int 99], vm := .none },
  { cls := 14, slots := #[.int 100], vm := .none },
  { cls := 14, slots := #[.int 101], vm := .none },
  { cls := 14, slots := #[.int 102], vm := .none },
  { cls := 14, slots := #[.int 103], vm := .none },
  { cls := 14, slots := #[.int 104], vm := .none },
  { cls := 14, slots := #[.int 105], vm := .none },
  { cls := 14, slots := #[.int 106], vm := .none },
  { cls := 14, slots := #[.int 107], vm := .none },
  { cls := 14, slots := #[.int 108], vm := .none },
  { cls := 14, slots := #[.int 109], vm := .none },
  { cls := 14, slots := #[.int 110], vm := .none },
  { cls := 14, slots := #[.int 111], vm := .none },
  { cls := 14, slots := #[.int 112], vm := .none },
  { cls := 14, slots := #[.int 113], vm := .none },
  { cls := 14, slots := #[.int 114], vm := .none },
  { cls := 14, slots := #[.int 115], vm := .none },
  { cls := 14, slots := #[.int 116], vm := .none },
  { cls := 14, slots := #[.int 117], vm := .none },
  { cls := 14, slots := #[.int 118], vm := .none },
  { cls := 14, slots := #[.int 119], vm := .none },
  { cls := 14, slots := #[.int 120], vm := .none },
  { cls := 14, slots := #[.int 121], vm := .none },
  { cls := 14, slots := #[.int 122], vm := .none },
  { cls := 14, slots := #[.int 123], vm := .none },
  { cls := 14, slots := #[.int 124], vm := .none },
  { cls := 14, slots := #[.int 125], vm := .none },
  { cls := 14, slots := #[.int 126], vm := .none },
  { cls := 14, slots := #[.int 127], vm := .none }]
def classes : Array Class := #[k0, k1, k2, k3, k4, k5, k6, k7, k8, k9, k10, k11, k12, k13, k14, k15, k16, k17, k18, k19, k20, k21, k22]
def interned : List (Array UInt16 × Addr) := []
def slotsUsed : Nat := 538
def theMethod : MethodId := ⟨1, 1⟩
def args0 : Array Value := #[.int 1, .int 5, .int 2, .int 7, .int 0]
def aboutOver (below : List Frame) : State where
  vm := { classes := classes, interned := interned.toArray }
  heap := heap
  slotsUsed := slotsUsed
  threads := #[{ frames := .invoking theMethod args0 :: below }]
def below0 : List Frame := [.native { method := ⟨0, 0⟩, args := #[] }]
def about1 : State := aboutOver below0
def p0 : Program := .bare "" "" ""
def e0 : Env := launch0.env 0 0 0
theorem w_frames : about1.frames = Frame.invoking theMethod args0 :: below0 := rfl
set_option maxRecDepth 65536 in
theorem w_args : argsFit about1.vm theMethod args0 = true := by decide +kernel
set_option maxRecDepth 65536 in
theorem w_heap : heapFits about1 = true := by decide +kernel
set_option maxRecDepth 65536 in
theorem w_runnable : about1.curStatus? = some .runnable := by decide +kernel
set_option maxRecDepth 65536 in
theorem w_alone : about1.alone = true := by decide +kernel
set_option maxRecDepth 65536 in
theorem w_named : about1.methodNamed? x = some theMethod := by decide +kernel
set_option maxRecDepth 65536 in
theorem w_hears : about1.hears theMethod below0 = true := by decide +kernel
set_option maxRecDepth 65536 in
theorem w_ripe : about1.ripe theMethod args0 below0 = true := by decide +kernel
theorem w_running : about1.status = .running := rfl
set_option maxRecDepth 65536 in
theorem w_room : about1.hasRoom e0.platform room_1 = true :=
  launch0.hasRoom_least _ room_1 (by decide +kernel) (by decide +kernel) (by decide +kernel) (by decide +kernel) (by decide +kernel) (by decide +kernel)
theorem allAtoms_all (ts : List Jvm.Cond) (a : Array Jvm.Value) (st : Jvm.State) : (allAtoms ts).before a st = ts.all (fun c => c.before a st) := by
  induction ts with
  | nil => rfl
  | cons c t ih =>
    show (Jvm.Cond.and c (allAtoms t)).before a st = _
    rw [Jvm.Cond.before_and, ih, List.all_cons]
def words1 : List Jvm.Cond := Jvm.Cond.code x code maxLocals ret :: tables_1
/-- a 'code' word, met by the world's own term for the bytes: nothing is compared byte by byte -/
theorem code_word {y : MethodName} {bytes : ByteArray} {mx : Nat} {rt : Option FieldType} {a : Array Value} {s : State} {m : MethodId} {meth : Method} {c : Code} (h1 : s.methodNamed? y = some m) (h2 : s.vm.method? m = some meth) (h3 : meth.code = some c) (h4 : c.code = bytes)
    (h5 : (c.maxLocals == mx && c.exceptionTable.isEmpty && decide (c.maxStack ≤ mostOperands) && decide (meth.sig.returnType = rt) && !meth.locks && decide (parseMethodDescriptor y.desc = some meth.sig)) = true) : (Jvm.Cond.code y bytes mx rt).before a s = true := by
  simp only [Bool.and_eq_true, beq_iff_eq, Bool.not_eq_true', decide_eq_true_eq] at h5
  obtain ⟨⟨⟨⟨⟨g1, g2⟩, g3⟩, g4⟩, g5⟩, g6⟩ := h5
  simp [Cond.before, Cond.holds, Cond.value, h1, h2, h3, h4, g1, g2, g3, g4, g5, g6]
def isCode : Jvm.Cond → Bool
  | .code _ _ _ _ => true
  | _ => false
theorem all_split {L : List Jvm.Cond} {P : Jvm.Cond → Bool} (h1 : L.all (fun c => isCode c || P c) = true) (h2 : ∀ c ∈ L.filter isCode, P c = true) : L.all P = true := by
  refine List.all_eq_true.mpr fun c hc => ?_
  have h := List.all_eq_true.mp h1 c hc
  rcases Bool.eq_false_or_eq_true (isCode c) with hi | hi
  · exact h2 c (List.mem_filter.mpr ⟨hc, hi⟩)
  · simpa [hi] using h
set_option maxRecDepth 65536 in
theorem w_c0 : (Jvm.Cond.code x code maxLocals ret).before args0 about1 = true := code_word (m := ⟨1, 1⟩) (meth := k1m1) (c := k1c1) (by decide +kernel) rfl rfl rfl (by decide +kernel)
set_option maxRecDepth 65536 in
theorem w_c1 : (Jvm.Cond.code ({ cls := "java/lang/Math", name := "max", desc := "(II)I" } : Jvm.MethodName) jdk_29_method_65_code (2 : Nat) (Option.some Jvm.ClassFile.FieldType.int)).before args0 about1 = true := code_word (m := ⟨7, 1⟩) (meth := k7m1) (c := k7c1) (by decide +kernel) rfl rfl rfl (by decide +kernel)
set_option maxRecDepth 65536 in
theorem w_c2 : (Jvm.Cond.code ({ cls := "com/example/larch/larch/model/Interval", name := "<init>", desc := "(Lcom/example/larch/larch/model/IntervalUnit;I)V" } : Jvm.MethodName) prog_7_method_1_code (3 : Nat) (Option.none : Option Jvm.ClassFile.FieldType)).before args0 about1 = true := code_word (m := ⟨8, 0⟩) (meth := k8m0) (c := k8c0) (by decide +kernel) rfl rfl rfl (by decide +kernel)
set_option maxRecDepth 65536 in
theorem w_c3 : (Jvm.Cond.code ({ cls := "java/lang/Object", name := "<init>", desc := "()V" } : Jvm.MethodName) object_method_1_code (1 : Nat) (Option.none : Option Jvm.ClassFile.FieldType)).before args0 about1 = true := code_word (m := ⟨0, 0⟩) (meth := k0m0) (c := k0c0) (by decide +kernel) rfl rfl rfl (by decide +kernel)
set_option maxRecDepth 65536 in
theorem w_c4 : (Jvm.Cond.code ({ cls := "java/util/Objects", name := "requireNonNull", desc := "(Ljava/lang/Object;Ljava/lang/String;)Ljava/lang/Object;" } : Jvm.MethodName) jdk_31_method_11_code (2 : Nat) (Option.some (Jvm.ClassFile.FieldType.object "java/lang/Object"))).before args0 about1 = true := code_word (m := ⟨12, 1⟩) (meth := k12m1) (c := k12c1) (by decide +kernel) rfl rfl rfl (by decide +kernel)
set_option maxRecDepth 65536 in
theorem w_c5 : (Jvm.Cond.code ({ cls := "com/example/larch/larch/model/Interval", name := "equals", desc := "(Ljava/lang/Object;)Z" } : Jvm.MethodName) prog_7_method_6_code (4 : Nat) (Option.some Jvm.ClassFile.FieldType.boolean)).before args0 about1 = true := code_word (m := ⟨8, 1⟩) (meth := k8m1) (c := k8c1) (by decide +kernel) rfl rfl rfl (by decide +kernel)
set_option maxRecDepth 65536 in
theorem w_c6 : (Jvm.Cond.code ({ cls := "java/lang/Integer", name := "valueOf", desc := "(I)Ljava/lang/Integer;" } : Jvm.MethodName) jdk_33_method_22_code (1 : Nat) (Option.some (Jvm.ClassFile.FieldType.object "java/lang/Integer"))).before args0 about1 = true := code_word (m := ⟨14, 0⟩) (meth := k14m0) (c := k14c0) (by decide +kernel) rfl rfl rfl (by decide +kernel)
set_option maxRecDepth 65536 in
theorem w_c7 : (Jvm.Cond.code ({ cls := "java/lang/Integer", name := "<init>", desc := "(I)V" } : Jvm.MethodName) jdk_33_method_23_code (2 : Nat) (Option.none : Option Jvm.ClassFile.FieldType)).before args0 about1 = true := code_word (m := ⟨14, 1⟩) (meth := k14m1) (c := k14c1) (by decide +kernel) rfl rfl rfl (by decide +kernel)
set_option maxRecDepth 65536 in
theorem w_c8 : (Jvm.Cond.code ({ cls := "java/lang/Number", name := "<init>", desc := "()V" } : Jvm.MethodName) jdk_18_method_1_code (1 : Nat) (Option.none : Option Jvm.ClassFile.FieldType)).before args0 about1 = true := code_word (m := ⟨13, 0⟩) (meth := k13m0) (c := k13c0) (by decide +kernel) rfl rfl rfl (by decide +kernel)
def codes1 : List Jvm.Cond := [Jvm.Cond.code x code maxLocals ret, Jvm.Cond.code ({ cls := "java/lang/Math", name := "max", desc := "(II)I" } : Jvm.MethodName) jdk_29_method_65_code (2 : Nat) (Option.some Jvm.ClassFile.FieldType.int), Jvm.Cond.code ({ cls := "com/example/larch/larch/model/Interval", name := "<init>", desc := "(Lcom/example/larch/larch/model/IntervalUnit;I)V" } : Jvm.MethodName) prog_7_method_1_code (3 : Nat) (Option.none : Option Jvm.ClassFile.FieldType), Jvm.Cond.code ({ cls := "java/lang/Object", name := "<init>", desc := "()V" } : Jvm.MethodName) object_method_1_code (1 : Nat) (Option.none : Option Jvm.ClassFile.FieldType), Jvm.Cond.code ({ cls := "java/util/Objects", name := "requireNonNull", desc := "(Ljava/lang/Object;Ljava/lang/String;)Ljava/lang/Object;" } : Jvm.MethodName) jdk_31_method_11_code (2 : Nat) (Option.some (Jvm.ClassFile.FieldType.object "java/lang/Object")), Jvm.Cond.code ({ cls := "com/example/larch/larch/model/Interval", name := "equals", desc := "(Ljava/lang/Object;)Z" } : Jvm.MethodName) prog_7_method_6_code (4 : Nat) (Option.some Jvm.ClassFile.FieldType.boolean), Jvm.Cond.code ({ cls := "java/lang/Integer", name := "valueOf", desc := "(I)Ljava/lang/Integer;" } : Jvm.MethodName) jdk_33_method_22_code (1 : Nat) (Option.some (Jvm.ClassFile.FieldType.object "java/lang/Integer")), Jvm.Cond.code ({ cls := "java/lang/Integer", name := "<init>", desc := "(I)V" } : Jvm.MethodName) jdk_33_method_23_code (2 : Nat) (Option.none : Option Jvm.ClassFile.FieldType), Jvm.Cond.code ({ cls := "java/lang/Number", name := "<init>", desc := "()V" } : Jvm.MethodName) jdk_18_method_1_code (1 : Nat) (Option.none : Option Jvm.ClassFile.FieldType)]
set_option maxRecDepth 65536 in
theorem codes_eq : words1.filter isCode = codes1 := rfl
theorem w_codes : ∀ c ∈ words1.filter isCode, c.before args0 about1 = true := by
  rw [codes_eq]
  intro c hc
  simp only [codes1, List.mem_cons, List.not_mem_nil, or_false] at hc
  rcases hc with rfl | rfl | rfl | rfl | rfl | rfl | rfl | rfl | rfl
  · exact w_c0
  · exact w_c1
  · exact w_c2
  · exact w_c3
  · exact w_c4
  · exact w_c5
  · exact w_c6
  · exact w_c7
  · exact w_c8
set_option maxRecDepth 65536 in
theorem w_t1 : (words1.take 24).all (fun c => isCode c || c.before args0 about1) = true := by decide +kernel
set_option maxRecDepth 65536 in
theorem w_t2 : ((words1.drop 24).take 24).all (fun c => isCode c || c.before args0 about1) = true := by decide +kernel
set_option maxRecDepth 65536 in
theorem w_t3 : (((words1.drop 24).drop 24).take 24).all (fun c => isCode c || c.before args0 about1) = true := by decide +kernel
set_option maxRecDepth 65536 in
theorem w_t4 : (((words1.drop 24).drop 24).drop 24).all (fun c => isCode c || c.before args0 about1) = true := by decide +kernel
theorem w_tables : (allAtoms (Jvm.Cond.code x code maxLocals ret :: tables_1)).before args0 about1 = true := by
  rw [allAtoms_all]
  show words1.all (fun c => c.before args0 about1) = true
  refine all_split ?_ w_codes
  rw [← List.take_append_drop 24 words1, List.all_append, w_t1, ← List.take_append_drop 24 (words1.drop 24), List.all_append, w_t2, ← List.take_append_drop 24 ((words1.drop 24).drop 24), List.all_append, w_t3, w_t4]
  rfl
set_option maxRecDepth 65536 in
theorem w_rest : rest_1_c.before args0 about1 = true := by decide +kernel
set_option maxRecDepth 65536 in
theorem w_case : (Jvm.Cond.and given_1 narrow_1).before args0 about1 = true := by decide +kernel
theorem w_applies : (headSpec (Jvm.Cond.code x code maxLocals ret :: tables_1) room_1).applies x e0.platform about1 = true :=
  (Spec.applies_iff w_frames).mpr ⟨w_running, w_runnable, w_alone, w_named, w_hears, w_ripe, w_room, w_tables⟩
theorem atStart : AtStart classFile x code maxLocals ret World_1 tables_1 room_1 Calls_1 rest_1 Pre_1 launch0 p0 e0 about1 theMethod args0 below0 :=
  ⟨lists_1, trivial, launch0.admits_env _ _ _, launch0.least_env, fairChoices_fair.cas, fairChoices_fair.clock, w_frames, w_args, w_heap, w_applies, trivial, w_rest, w_case⟩
end start1
theorem witness_1 : WitnessClaimed_1 := ⟨start1.p0, start1.e0, start1.about1, start1.theMethod, start1.args0, start1.below0, start1.atStart⟩
end Jvm.Pilot.@@N@@
