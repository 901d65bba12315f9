import JvmDerived
import JvmDerived.Pilot.@@N@@Statement
import JvmDerived.Pilot.@@N@@Code
set_option linter.unusedVariables false
set_option linter.unusedSimpArgs false
namespace Jvm.RoadKit
open Sem ClassFile Op Lib Jvm.Stand Jvm.Free Jvm.LawKit
section New
variable {p : Program} {l : Launch} {e : Env} {R : Room} {s : State} {m : MethodId} {args : Array Value} {below : List Frame} {meth : Method} {c : Code} {T : State} {locs : List Loc} {cells slots : Nat}
theorem retI (X : Stand p l e R s m args below meth c T locs cells slots) (hx : p.tables.exec = Jvm.exec) {pc : Nat} {Ls : Array Slot} {z : Int32} {rest : List Value} (hret : meth.sig.returnType = some .int) (hd : decode c.code pc = .ok (.ireturn, 1)) {fs : List Frame}
    (hl : ∀ (f : JFrame) (acts : List Action), f.method = m → f.locked = none → f.entered = [] → (doReturn e (T.setTop f) acts (some (.int z))).1 = T.setFrames fs) : Steps p.tables e below (T.setTop (mkF m pc Ls (.int z :: rest))) (T.setFrames fs) := by
  have hm' : T.vm.method? m = some meth := X.method'
  have hn : narrow .int (.int z) = .int z := rfl
  show Steps p.tables e below (T.setTop { method := m, pc := pc, locals := Ls, stack := _ :: rest, locked := none }) _
  jvm_step X.here [X.here.top, hx, hd, hm', hret, hn]
  first | (intro acts; rw [hl _ acts rfl rfl rfl]) | rw [hl _ _ rfl rfl rfl]
  exact Steps.refl _
end New
end Jvm.RoadKit
namespace Jvm.Pilot.@@N@@
open Jvm Jvm.ClassFile Sem Op Lib Jvm.Free Jvm.Stand Jvm.LawKit Jvm.RoadKit Bundle Jvm.Pilot.@@N@@.Jvm.D
theorem own_eqI {args : Array Value} {s : State} {t : Term} {k : Int32} (h : (Jvm.Cond.eq t (.int k)).value args s none s [] = some true) : t.eval args s none [] s = some (.int k) := by
  obtain ⟨x, y, hx, hy, -, k2⟩ := cmp_v (Or.inl h)
  obtain rfl : y = .int k := (Option.some.inj ((Term.int_eval k).symm.trans hy)).symm
  obtain ⟨z, rfl⟩ := k2
  have := gotT (Cond.eq_ints hx (Term.int_eval k)) h
  rw [hx, this]
def Q0 (n0 : Nat) (v : Option Value) (L : List Loc) : Prop := v = some (.int 1) ∧ Fr n0 L
def AtC (Z : State) (a : Addr) (ty : FieldType) (j : Int32) (w : Addr) : Prop := ∃ cl : Cell, Arr Z Z.heap a cl ty ∧ ¬ (j < 0 ∨ cl.slots.size ≤ j.toNatClampNeg) ∧ cl.slots[j.toNatClampNeg]? = some (.ref w)
theorem own_box {Z : State} {a : Addr} {c : Cell} {K d : String} {z : Int32} {val : Int32 → Value} (B : Bxs Z a c K d z val) {j : Int32} (h0 : ¬ j < 0) (h1 : j < z) : ∃ w, AtC Z a (.object K) j w ∧ Exa Z Z.heap w K ∧ Fld Z Z.heap w K "value" d (val j) := by
  obtain ⟨A, S, -, F⟩ := B
  have hin := inb_of S ⟨h0, h1⟩
  obtain ⟨w, hw, E, Fl⟩ := F j hin
  exact ⟨w, ⟨c, A, hin, hw⟩, E, Fl⟩
theorem own_len {s : State} {args : Array Value} {t : Term} {a : Addr} {c : Cell} {z : Int32} (ev : t.eval args s none [] s = some (.ref a)) (fl : s.arrayAt? a = some c) (el : (Term.length t).eval args s none [] s = some (.int z)) : c.slots.size < 2 ^ 31 ∧ c.slots.size.toInt32 = z := by
  simp only [Term.eval, ev] at el
  by_cases q : c.slots.size < 2 ^ 31
  · simp [fl, q] at el; exact ⟨q, el⟩
  · simp [fl, q] at el
theorem own_bxs {Z : State} {args : Array Value} {C n dd : String} {F : Term} {a : Addr} {K d : String} {z : Int32} {val : Int32 → Value} (ev : (Term.static C n dd).eval args Z none [] Z = some (.ref a))
    (ha : (Jvm.Cond.arrayOf (.static C n dd) (.object K)).value args Z none Z [] = some true) (hl : (Jvm.Cond.eq (.length (.static C n dd)) (.int z)).value args Z none Z [] = some true) (hz : ¬ z < 0)
    (h : (Jvm.Cond.all (.static C n dd) (.and (.exactly (.elem (.static C n dd) (.index 0)) K) (.eq (.field (.elem (.static C n dd) (.index 0)) K "value" d) F))).value args Z none Z [] = some true)
    (hv : ∀ (X : Term) (j : Int32), ¬ j < 0 → (Jvm.Cond.eq X F).value args Z none Z [j.toNatClampNeg] = some true → X.eval args Z none [j.toNatClampNeg] Z = some (val j)) : ∃ c, Bxs Z a c K d z val := by
  obtain ⟨c, A⟩ := Arr.start ev ha
  have hq := own_len ev (A.fin (Vm.Alike.refl _)) (own_eqI hl)
  exact ⟨c, Bxs.start (fun _ => ev) A hq.1 hq.2 hz h hv⟩
theorem own_arr0 {s : State} {args : Array Value} {t : Term} {a : Addr} {K : String} (hf : Fit s) (ev : t.eval args s none [] s = some (.ref a)) (ha : (Jvm.Cond.arrayOf t (.object K)).value args s none s [] = some true) (hl : (Jvm.Cond.eq (.length t) (.int 0)).value args s none s [] = some true) :
    ∃ k, Arv s s.heap a k (.object K) (0 : Int32) [] .null := by
  obtain ⟨c, A⟩ := Arr.start ev ha
  have hq := own_len ev (A.fin (Vm.Alike.refl _)) (own_eqI hl)
  exact ⟨_, Arv.start hf A hq.1 hq.2 (by decide) rfl trivial⟩
theorem own_eqR {s : State} {args : Array Value} {t u : Term} {w : Addr} (hu : u.eval args s none [] s = some (.ref w)) (h : (Jvm.Cond.eq t u).value args s none s [] = some true) : t.eval args s none [] s = some (.ref w) := by
  obtain ⟨x, y, hx, hy, -, k2⟩ := cmp_v (Or.inl h)
  obtain rfl : y = .ref w := (Option.some.inj (hu.symm.trans hy)).symm
  have := gotT (eq_R hx hu k2.2 rfl) h
  rw [hx, this]
theorem own_idx {Z : State} {args : Array Value} {j : Int32} (hj : ¬ j < 0) : (Term.sub (.index 0) (.int 128)).eval args Z none [j.toNatClampNeg] Z = some (.int (j - 128)) := by
  have e := idx_at (args := args) (s := Z) (first := Z) (o := none) hj
  simp [Term.eval, e]
  exact (back32 hj).1
theorem own_addsub (a b : Int32) : a + b - b = a := by
  apply Int32.toInt_inj.mp
  have := c_iadd a b; have := c_isub (a + b) b; have := rng32 a; have := rng32 b; have := rng32 (a + b - b)
  omega
theorem own_inbox {y : Int32} (h1 : ¬ (y < (-128 : Int32))) (h2 : ¬ ((127 : Int32) < y)) : ¬ ((y + (128 : Int32)) < 0) ∧ (y + (128 : Int32)) < 256 := by
  rw [Int32.lt_iff_toInt_lt] at h1 h2
  rw [Int32.lt_iff_toInt_lt, Int32.lt_iff_toInt_lt]
  have l0 : (0 : Int32).toInt = 0 := by decide
  have l127 : (127 : Int32).toInt = 127 := by decide
  have l128 : (128 : Int32).toInt = 128 := by decide
  have lm : (-128 : Int32).toInt = -128 := by decide
  have l256 : (256 : Int32).toInt = 256 := by decide
  have := c_iadd y 128; have := rng32 (y + 128)
  omega
theorem own_inboxL {y : Int64} (h1 : ¬ (y < (-128 : Int64))) (h2 : ¬ ((127 : Int64) < y)) : ¬ ((y.toInt32 + (128 : Int32)) < 0) ∧ (y.toInt32 + (128 : Int32)) < 256 := by
  rw [Int64.lt_iff_toInt_lt] at h1 h2
  rw [Int32.lt_iff_toInt_lt, Int32.lt_iff_toInt_lt]
  have l0 : (0 : Int32).toInt = 0 := by decide
  have l127 : (127 : Int64).toInt = 127 := by decide
  have l128 : (128 : Int32).toInt = 128 := by decide
  have lm : (-128 : Int64).toInt = -128 := by decide
  have l256 : (256 : Int32).toInt = 256 := by decide
  have := c_l2i y; have := rng32 y.toInt32
  have := c_iadd y.toInt32 128; have := rng32 (y.toInt32 + 128)
  omega
theorem own_mod3 (x : Int32) : ((x &&& (2147483647 : Int32)) % (3 : Int32)) = (0 : Int32) ∨ ((x &&& (2147483647 : Int32)) % (3 : Int32)) = (1 : Int32) ∨ ((x &&& (2147483647 : Int32)) % (3 : Int32)) = (2 : Int32) := by
  have e1 := c_mask x 2147483647 31 (by decide) (by decide)
  have e2 := (c_irem (x &&& (2147483647 : Int32)) (3 : Int32) 3 (by decide)).1 (by omega)
  generalize ((x &&& (2147483647 : Int32)) % (3 : Int32)) = r at *
  have hd : r.toInt = 0 ∨ r.toInt = 1 ∨ r.toInt = 2 := by omega
  rcases hd with h | h | h
  · exact Or.inl (Int32.toInt_inj.mp (h.trans (by decide)))
  · exact Or.inr (Or.inl (Int32.toInt_inj.mp (h.trans (by decide))))
  · exact Or.inr (Or.inr (Int32.toInt_inj.mp (h.trans (by decide))))
theorem own_c255 (x : Int32) : ¬ ((255 : Int32) < ((x &&& (255 : Int32)).toUInt32.toUInt16.toUInt32.toInt32)) := by
  rw [i2c_mask, Int32.lt_iff_toInt_lt]
  have := c_mask x 255 8 (by decide) (by decide)
  have l : (255 : Int32).toInt = 255 := by decide
  omega
theorem wd0 {a0 : Array Value} {Z : State} (hw : ∀ d ∈ tables_1, d.before a0 Z = true) : (Jvm.Cond.constant "com/example/rowforge/rowforge/ConstantNullablePinLaw" (7 : Nat) (2147483647 : Int32)).before a0 Z = true := hw _ (List.mem_of_getElem? (i := 0) rfl)
theorem wd1 {a0 : Array Value} {Z : State} (hw : ∀ d ∈ tables_1, d.before a0 Z = true) : (Jvm.Cond.fieldLink "com/example/rowforge/rowforge/ConstantNullablePinLaw" (14 : Nat) "com/example/rowforge/rowforge/SqlType" "VARCHAR" "Lcom/example/rowforge/rowforge/SqlType;").before a0 Z = true := hw _ (List.mem_of_getElem? (i := 1) rfl)
theorem wd2 {a0 : Array Value} {Z : State} (hw : ∀ d ∈ tables_1, d.before a0 Z = true) : (Jvm.Cond.initialized "com/example/rowforge/rowforge/SqlType").before a0 Z = true := hw _ (List.mem_of_getElem? (i := 2) rfl)
theorem wd3 {a0 : Array Value} {Z : State} (hw : ∀ d ∈ tables_1, d.before a0 Z = true) : (Jvm.Cond.laysStatic "com/example/rowforge/rowforge/SqlType" "VARCHAR" "Lcom/example/rowforge/rowforge/SqlType;").before a0 Z = true := hw _ (List.mem_of_getElem? (i := 3) rfl)
theorem wd4 {a0 : Array Value} {Z : State} (hw : ∀ d ∈ tables_1, d.before a0 Z = true) : (Jvm.Cond.classLink "com/example/rowforge/rowforge/ConstantNullablePinLaw" (31 : Nat) "com/example/rowforge/rowforge/Column").before a0 Z = true := hw _ (List.mem_of_getElem? (i := 4) rfl)
theorem wd5 {a0 : Array Value} {Z : State} (hw : ∀ d ∈ tables_1, d.before a0 Z = true) : (Jvm.Cond.instantiable "com/example/rowforge/rowforge/Column" (6 : Nat)).before a0 Z = true := hw _ (List.mem_of_getElem? (i := 5) rfl)
theorem wd6 {a0 : Array Value} {Z : State} (hw : ∀ d ∈ tables_1, d.before a0 Z = true) : (Jvm.Cond.initialized "com/example/rowforge/rowforge/Column").before a0 Z = true := hw _ (List.mem_of_getElem? (i := 6) rfl)
theorem wd7 {a0 : Array Value} {Z : State} (hw : ∀ d ∈ tables_1, d.before a0 Z = true) : (Jvm.Cond.stringLink "com/example/rowforge/rowforge/ConstantNullablePinLaw" (33 : Nat) "?column?").before a0 Z = true := hw _ (List.mem_of_getElem? (i := 7) rfl)
theorem wd8 {a0 : Array Value} {Z : State} (hw : ∀ d ∈ tables_1, d.before a0 Z = true) : (Jvm.Cond.initialized "java/lang/String").before a0 Z = true := hw _ (List.mem_of_getElem? (i := 8) rfl)
theorem wd9 {a0 : Array Value} {Z : State} (hw : ∀ d ∈ tables_1, d.before a0 Z = true) : (Jvm.Cond.instantiable "java/lang/String" (4 : Nat)).before a0 Z = true := hw _ (List.mem_of_getElem? (i := 9) rfl)
theorem wd10 {a0 : Array Value} {Z : State} (hw : ∀ d ∈ tables_1, d.before a0 Z = true) : (Jvm.Cond.arrayClass Jvm.ClassFile.FieldType.byte).before a0 Z = true := hw _ (List.mem_of_getElem? (i := 10) rfl)
theorem wd11 {a0 : Array Value} {Z : State} (hw : ∀ d ∈ tables_1, d.before a0 Z = true) : (Jvm.Cond.laysFinal "java/lang/String" "java/lang/String" "value" "[B").before a0 Z = true := hw _ (List.mem_of_getElem? (i := 11) rfl)
theorem wd12 {a0 : Array Value} {Z : State} (hw : ∀ d ∈ tables_1, d.before a0 Z = true) : (Jvm.Cond.laysFinal "java/lang/String" "java/lang/String" "coder" "B").before a0 Z = true := hw _ (List.mem_of_getElem? (i := 12) rfl)
theorem wd13 {a0 : Array Value} {Z : State} (hw : ∀ d ∈ tables_1, d.before a0 Z = true) : (Jvm.Cond.soleField "java/lang/String" "value").before a0 Z = true := hw _ (List.mem_of_getElem? (i := 13) rfl)
theorem wd14 {a0 : Array Value} {Z : State} (hw : ∀ d ∈ tables_1, d.before a0 Z = true) : (Jvm.Cond.soleField "java/lang/String" "coder").before a0 Z = true := hw _ (List.mem_of_getElem? (i := 14) rfl)
theorem wd15 {a0 : Array Value} {Z : State} (hw : ∀ d ∈ tables_1, d.before a0 Z = true) : (Jvm.Cond.methodLink "com/example/rowforge/rowforge/ConstantNullablePinLaw" (35 : Nat) ({ cls := "com/example/rowforge/rowforge/Column", name := "<init>", desc := "(Ljava/lang/String;ILcom/example/rowforge/rowforge/SqlType;IIZ)V" } : Jvm.MethodName)).before a0 Z = true := hw _ (List.mem_of_getElem? (i := 15) rfl)
theorem wd16 {a0 : Array Value} {Z : State} (hw : ∀ d ∈ tables_1, d.before a0 Z = true) : (Jvm.Cond.instanceMethod ({ cls := "com/example/rowforge/rowforge/Column", name := "<init>", desc := "(Ljava/lang/String;ILcom/example/rowforge/rowforge/SqlType;IIZ)V" } : Jvm.MethodName)).before a0 Z = true := hw _ (List.mem_of_getElem? (i := 16) rfl)
theorem wd17 {a0 : Array Value} {Z : State} (hw : ∀ d ∈ tables_1, d.before a0 Z = true) : (Jvm.Cond.code ({ cls := "com/example/rowforge/rowforge/Column", name := "<init>", desc := "(Ljava/lang/String;ILcom/example/rowforge/rowforge/SqlType;IIZ)V" } : Jvm.MethodName) prog_2_method_1_code (7 : Nat) (Option.none : Option Jvm.ClassFile.FieldType)).before a0 Z = true := hw _ (List.mem_of_getElem? (i := 17) rfl)
theorem wd18 {a0 : Array Value} {Z : State} (hw : ∀ d ∈ tables_1, d.before a0 Z = true) : (Jvm.Cond.methodLink "com/example/rowforge/rowforge/Column" (3 : Nat) ({ cls := "java/lang/Record", name := "<init>", desc := "()V" } : Jvm.MethodName)).before a0 Z = true := hw _ (List.mem_of_getElem? (i := 18) rfl)
theorem wd19 {a0 : Array Value} {Z : State} (hw : ∀ d ∈ tables_1, d.before a0 Z = true) : (Jvm.Cond.instanceMethod ({ cls := "java/lang/Record", name := "<init>", desc := "()V" } : Jvm.MethodName)).before a0 Z = true := hw _ (List.mem_of_getElem? (i := 19) rfl)
theorem wd21 {a0 : Array Value} {Z : State} (hw : ∀ d ∈ tables_1, d.before a0 Z = true) : (Jvm.Cond.initialized "java/lang/Record").before a0 Z = true := hw _ (List.mem_of_getElem? (i := 21) rfl)
theorem wd22 {a0 : Array Value} {Z : State} (hw : ∀ d ∈ tables_1, d.before a0 Z = true) : (Jvm.Cond.code ({ cls := "java/lang/Record", name := "<init>", desc := "()V" } : Jvm.MethodName) jdk_30_method_1_code (1 : Nat) (Option.none : Option Jvm.ClassFile.FieldType)).before a0 Z = true := hw _ (List.mem_of_getElem? (i := 22) rfl)
theorem wd23 {a0 : Array Value} {Z : State} (hw : ∀ d ∈ tables_1, d.before a0 Z = true) : (Jvm.Cond.methodLink "java/lang/Record" (1 : Nat) ({ cls := "java/lang/Object", name := "<init>", desc := "()V" } : Jvm.MethodName)).before a0 Z = true := hw _ (List.mem_of_getElem? (i := 23) rfl)
theorem wd24 {a0 : Array Value} {Z : State} (hw : ∀ d ∈ tables_1, d.before a0 Z = true) : (Jvm.Cond.instanceMethod ({ cls := "java/lang/Object", name := "<init>", desc := "()V" } : Jvm.MethodName)).before a0 Z = true := hw _ (List.mem_of_getElem? (i := 24) rfl)
theorem wd25 {a0 : Array Value} {Z : State} (hw : ∀ d ∈ tables_1, d.before a0 Z = true) : (Jvm.Cond.code ({ cls := "java/lang/Object", name := "<init>", desc := "()V" } : Jvm.MethodName) object_method_1_code (1 : Nat) (Option.none : Option Jvm.ClassFile.FieldType)).before a0 Z = true := hw _ (List.mem_of_getElem? (i := 25) rfl)
theorem wd26 {a0 : Array Value} {Z : State} (hw : ∀ d ∈ tables_1, d.before a0 Z = true) : (Jvm.Cond.fieldLink "com/example/rowforge/rowforge/Column" (9 : Nat) "com/example/rowforge/rowforge/Column" "name" "Ljava/lang/String;").before a0 Z = true := hw _ (List.mem_of_getElem? (i := 26) rfl)
theorem wd27 {a0 : Array Value} {Z : State} (hw : ∀ d ∈ tables_1, d.before a0 Z = true) : (Jvm.Cond.laysFinal "com/example/rowforge/rowforge/Column" "com/example/rowforge/rowforge/Column" "name" "Ljava/lang/String;").before a0 Z = true := hw _ (List.mem_of_getElem? (i := 27) rfl)
theorem wd28 {a0 : Array Value} {Z : State} (hw : ∀ d ∈ tables_1, d.before a0 Z = true) : (Jvm.Cond.fieldLink "com/example/rowforge/rowforge/Column" (15 : Nat) "com/example/rowforge/rowforge/Column" "position" "I").before a0 Z = true := hw _ (List.mem_of_getElem? (i := 28) rfl)
theorem wd29 {a0 : Array Value} {Z : State} (hw : ∀ d ∈ tables_1, d.before a0 Z = true) : (Jvm.Cond.laysFinal "com/example/rowforge/rowforge/Column" "com/example/rowforge/rowforge/Column" "position" "I").before a0 Z = true := hw _ (List.mem_of_getElem? (i := 29) rfl)
theorem wd30 {a0 : Array Value} {Z : State} (hw : ∀ d ∈ tables_1, d.before a0 Z = true) : (Jvm.Cond.fieldLink "com/example/rowforge/rowforge/Column" (19 : Nat) "com/example/rowforge/rowforge/Column" "type" "Lcom/example/rowforge/rowforge/SqlType;").before a0 Z = true := hw _ (List.mem_of_getElem? (i := 30) rfl)
theorem wd31 {a0 : Array Value} {Z : State} (hw : ∀ d ∈ tables_1, d.before a0 Z = true) : (Jvm.Cond.laysFinal "com/example/rowforge/rowforge/Column" "com/example/rowforge/rowforge/Column" "type" "Lcom/example/rowforge/rowforge/SqlType;").before a0 Z = true := hw _ (List.mem_of_getElem? (i := 31) rfl)
theorem wd32 {a0 : Array Value} {Z : State} (hw : ∀ d ∈ tables_1, d.before a0 Z = true) : (Jvm.Cond.fieldLink "com/example/rowforge/rowforge/Column" (23 : Nat) "com/example/rowforge/rowforge/Column" "length" "I").before a0 Z = true := hw _ (List.mem_of_getElem? (i := 32) rfl)
theorem wd33 {a0 : Array Value} {Z : State} (hw : ∀ d ∈ tables_1, d.before a0 Z = true) : (Jvm.Cond.laysFinal "com/example/rowforge/rowforge/Column" "com/example/rowforge/rowforge/Column" "length" "I").before a0 Z = true := hw _ (List.mem_of_getElem? (i := 33) rfl)
theorem wd34 {a0 : Array Value} {Z : State} (hw : ∀ d ∈ tables_1, d.before a0 Z = true) : (Jvm.Cond.fieldLink "com/example/rowforge/rowforge/Column" (26 : Nat) "com/example/rowforge/rowforge/Column" "scale" "I").before a0 Z = true := hw _ (List.mem_of_getElem? (i := 34) rfl)
theorem wd35 {a0 : Array Value} {Z : State} (hw : ∀ d ∈ tables_1, d.before a0 Z = true) : (Jvm.Cond.laysFinal "com/example/rowforge/rowforge/Column" "com/example/rowforge/rowforge/Column" "scale" "I").before a0 Z = true := hw _ (List.mem_of_getElem? (i := 35) rfl)
theorem wd36 {a0 : Array Value} {Z : State} (hw : ∀ d ∈ tables_1, d.before a0 Z = true) : (Jvm.Cond.fieldLink "com/example/rowforge/rowforge/Column" (29 : Nat) "com/example/rowforge/rowforge/Column" "nullable" "Z").before a0 Z = true := hw _ (List.mem_of_getElem? (i := 36) rfl)
theorem wd37 {a0 : Array Value} {Z : State} (hw : ∀ d ∈ tables_1, d.before a0 Z = true) : (Jvm.Cond.laysFinal "com/example/rowforge/rowforge/Column" "com/example/rowforge/rowforge/Column" "nullable" "Z").before a0 Z = true := hw _ (List.mem_of_getElem? (i := 37) rfl)
theorem wd38 {a0 : Array Value} {Z : State} (hw : ∀ d ∈ tables_1, d.before a0 Z = true) : (Jvm.Cond.classLink "com/example/rowforge/rowforge/ConstantNullablePinLaw" (38 : Nat) "com/example/rowforge/rowforge/Field$Constant").before a0 Z = true := hw _ (List.mem_of_getElem? (i := 38) rfl)
theorem wd39 {a0 : Array Value} {Z : State} (hw : ∀ d ∈ tables_1, d.before a0 Z = true) : (Jvm.Cond.instantiable "com/example/rowforge/rowforge/Field$Constant" (2 : Nat)).before a0 Z = true := hw _ (List.mem_of_getElem? (i := 39) rfl)
theorem wd40 {a0 : Array Value} {Z : State} (hw : ∀ d ∈ tables_1, d.before a0 Z = true) : (Jvm.Cond.initialized "com/example/rowforge/rowforge/Field$Constant").before a0 Z = true := hw _ (List.mem_of_getElem? (i := 40) rfl)
theorem wd41 {a0 : Array Value} {Z : State} (hw : ∀ d ∈ tables_1, d.before a0 Z = true) : (Jvm.Cond.methodLink "com/example/rowforge/rowforge/ConstantNullablePinLaw" (40 : Nat) ({ cls := "com/example/rowforge/rowforge/Field$Constant", name := "<init>", desc := "(Ljava/lang/Object;Lcom/example/rowforge/rowforge/Column;)V" } : Jvm.MethodName)).before a0 Z = true := hw _ (List.mem_of_getElem? (i := 41) rfl)
theorem wd42 {a0 : Array Value} {Z : State} (hw : ∀ d ∈ tables_1, d.before a0 Z = true) : (Jvm.Cond.instanceMethod ({ cls := "com/example/rowforge/rowforge/Field$Constant", name := "<init>", desc := "(Ljava/lang/Object;Lcom/example/rowforge/rowforge/Column;)V" } : Jvm.MethodName)).before a0 Z = true := hw _ (List.mem_of_getElem? (i := 42) rfl)
theorem wd43 {a0 : Array Value} {Z : State} (hw : ∀ d ∈ tables_1, d.before a0 Z = true) : (Jvm.Cond.code ({ cls := "com/example/rowforge/rowforge/Field$Constant", name := "<init>", desc := "(Ljava/lang/Object;Lcom/example/rowforge/rowforge/Column;)V" } : Jvm.MethodName) prog_10_method_1_code (3 : Nat) (Option.none : Option Jvm.ClassFile.FieldType)).before a0 Z = true := hw _ (List.mem_of_getElem? (i := 43) rfl)
theorem wd44 {a0 : Array Value} {Z : State} (hw : ∀ d ∈ tables_1, d.before a0 Z = true) : (Jvm.Cond.methodLink "com/example/rowforge/rowforge/Field$Constant" (1 : Nat) ({ cls := "java/lang/Record", name := "<init>", desc := "()V" } : Jvm.MethodName)).before a0 Z = true := hw _ (List.mem_of_getElem? (i := 44) rfl)
theorem wd45 {a0 : Array Value} {Z : State} (hw : ∀ d ∈ tables_1, d.before a0 Z = true) : (Jvm.Cond.fieldLink "com/example/rowforge/rowforge/Field$Constant" (7 : Nat) "com/example/rowforge/rowforge/Field$Constant" "value" "Ljava/lang/Object;").before a0 Z = true := hw _ (List.mem_of_getElem? (i := 45) rfl)
theorem wd46 {a0 : Array Value} {Z : State} (hw : ∀ d ∈ tables_1, d.before a0 Z = true) : (Jvm.Cond.laysFinal "com/example/rowforge/rowforge/Field$Constant" "com/example/rowforge/rowforge/Field$Constant" "value" "Ljava/lang/Object;").before a0 Z = true := hw _ (List.mem_of_getElem? (i := 46) rfl)
theorem wd47 {a0 : Array Value} {Z : State} (hw : ∀ d ∈ tables_1, d.before a0 Z = true) : (Jvm.Cond.fieldLink "com/example/rowforge/rowforge/Field$Constant" (13 : Nat) "com/example/rowforge/rowforge/Field$Constant" "column" "Lcom/example/rowforge/rowforge/Column;").before a0 Z = true := hw _ (List.mem_of_getElem? (i := 47) rfl)
theorem wd48 {a0 : Array Value} {Z : State} (hw : ∀ d ∈ tables_1, d.before a0 Z = true) : (Jvm.Cond.laysFinal "com/example/rowforge/rowforge/Field$Constant" "com/example/rowforge/rowforge/Field$Constant" "column" "Lcom/example/rowforge/rowforge/Column;").before a0 Z = true := hw _ (List.mem_of_getElem? (i := 48) rfl)
theorem wd49 {a0 : Array Value} {Z : State} (hw : ∀ d ∈ tables_1, d.before a0 Z = true) : (Jvm.Cond.classLink "com/example/rowforge/rowforge/ConstantNullablePinLaw" (43 : Nat) "java/util/ArrayList").before a0 Z = true := hw _ (List.mem_of_getElem? (i := 49) rfl)
theorem wd50 {a0 : Array Value} {Z : State} (hw : ∀ d ∈ tables_1, d.before a0 Z = true) : (Jvm.Cond.instantiable "java/util/ArrayList" (3 : Nat)).before a0 Z = true := hw _ (List.mem_of_getElem? (i := 50) rfl)
theorem wd51 {a0 : Array Value} {Z : State} (hw : ∀ d ∈ tables_1, d.before a0 Z = true) : (Jvm.Cond.initialized "java/util/ArrayList").before a0 Z = true := hw _ (List.mem_of_getElem? (i := 51) rfl)
theorem wd52 {a0 : Array Value} {Z : State} (hw : ∀ d ∈ tables_1, d.before a0 Z = true) : (Jvm.Cond.methodLink "com/example/rowforge/rowforge/ConstantNullablePinLaw" (45 : Nat) ({ cls := "java/util/ArrayList", name := "<init>", desc := "()V" } : Jvm.MethodName)).before a0 Z = true := hw _ (List.mem_of_getElem? (i := 52) rfl)
theorem wd53 {a0 : Array Value} {Z : State} (hw : ∀ d ∈ tables_1, d.before a0 Z = true) : (Jvm.Cond.instanceMethod ({ cls := "java/util/ArrayList", name := "<init>", desc := "()V" } : Jvm.MethodName)).before a0 Z = true := hw _ (List.mem_of_getElem? (i := 53) rfl)
theorem wd54 {a0 : Array Value} {Z : State} (hw : ∀ d ∈ tables_1, d.before a0 Z = true) : (Jvm.Cond.code ({ cls := "java/util/ArrayList", name := "<init>", desc := "()V" } : Jvm.MethodName) jdk_38_method_2_code (1 : Nat) (Option.none : Option Jvm.ClassFile.FieldType)).before a0 Z = true := hw _ (List.mem_of_getElem? (i := 54) rfl)
theorem wd55 {a0 : Array Value} {Z : State} (hw : ∀ d ∈ tables_1, d.before a0 Z = true) : (Jvm.Cond.methodLink "java/util/ArrayList" (1 : Nat) ({ cls := "java/util/AbstractList", name := "<init>", desc := "()V" } : Jvm.MethodName)).before a0 Z = true := hw _ (List.mem_of_getElem? (i := 55) rfl)
theorem wd56 {a0 : Array Value} {Z : State} (hw : ∀ d ∈ tables_1, d.before a0 Z = true) : (Jvm.Cond.instanceMethod ({ cls := "java/util/AbstractList", name := "<init>", desc := "()V" } : Jvm.MethodName)).before a0 Z = true := hw _ (List.mem_of_getElem? (i := 56) rfl)
theorem wd59 {a0 : Array Value} {Z : State} (hw : ∀ d ∈ tables_1, d.before a0 Z = true) : (Jvm.Cond.initialized "java/util/AbstractList").before a0 Z = true := hw _ (List.mem_of_getElem? (i := 59) rfl)
theorem wd60 {a0 : Array Value} {Z : State} (hw : ∀ d ∈ tables_1, d.before a0 Z = true) : (Jvm.Cond.code ({ cls := "java/util/AbstractList", name := "<init>", desc := "()V" } : Jvm.MethodName) jdk_39_method_1_code (1 : Nat) (Option.none : Option Jvm.ClassFile.FieldType)).before a0 Z = true := hw _ (List.mem_of_getElem? (i := 60) rfl)
theorem wd61 {a0 : Array Value} {Z : State} (hw : ∀ d ∈ tables_1, d.before a0 Z = true) : (Jvm.Cond.methodLink "java/util/AbstractList" (1 : Nat) ({ cls := "java/util/AbstractCollection", name := "<init>", desc := "()V" } : Jvm.MethodName)).before a0 Z = true := hw _ (List.mem_of_getElem? (i := 61) rfl)
theorem wd62 {a0 : Array Value} {Z : State} (hw : ∀ d ∈ tables_1, d.before a0 Z = true) : (Jvm.Cond.instanceMethod ({ cls := "java/util/AbstractCollection", name := "<init>", desc := "()V" } : Jvm.MethodName)).before a0 Z = true := hw _ (List.mem_of_getElem? (i := 62) rfl)
theorem wd65 {a0 : Array Value} {Z : State} (hw : ∀ d ∈ tables_1, d.before a0 Z = true) : (Jvm.Cond.initialized "java/util/AbstractCollection").before a0 Z = true := hw _ (List.mem_of_getElem? (i := 65) rfl)
theorem wd66 {a0 : Array Value} {Z : State} (hw : ∀ d ∈ tables_1, d.before a0 Z = true) : (Jvm.Cond.code ({ cls := "java/util/AbstractCollection", name := "<init>", desc := "()V" } : Jvm.MethodName) jdk_22_method_1_code (1 : Nat) (Option.none : Option Jvm.ClassFile.FieldType)).before a0 Z = true := hw _ (List.mem_of_getElem? (i := 66) rfl)
theorem wd67 {a0 : Array Value} {Z : State} (hw : ∀ d ∈ tables_1, d.before a0 Z = true) : (Jvm.Cond.methodLink "java/util/AbstractCollection" (1 : Nat) ({ cls := "java/lang/Object", name := "<init>", desc := "()V" } : Jvm.MethodName)).before a0 Z = true := hw _ (List.mem_of_getElem? (i := 67) rfl)
theorem wd68 {a0 : Array Value} {Z : State} (hw : ∀ d ∈ tables_1, d.before a0 Z = true) : (Jvm.Cond.fieldLink "java/util/AbstractList" (7 : Nat) "java/util/AbstractList" "modCount" "I").before a0 Z = true := hw _ (List.mem_of_getElem? (i := 68) rfl)
theorem wd69 {a0 : Array Value} {Z : State} (hw : ∀ d ∈ tables_1, d.before a0 Z = true) : (Jvm.Cond.lays "java/util/ArrayList" "java/util/AbstractList" "modCount" "I").before a0 Z = true := hw _ (List.mem_of_getElem? (i := 69) rfl)
theorem wd70 {a0 : Array Value} {Z : State} (hw : ∀ d ∈ tables_1, d.before a0 Z = true) : (Jvm.Cond.fieldLink "java/util/ArrayList" (39 : Nat) "java/util/ArrayList" "DEFAULTCAPACITY_EMPTY_ELEMENTDATA" "[Ljava/lang/Object;").before a0 Z = true := hw _ (List.mem_of_getElem? (i := 70) rfl)
theorem wd71 {a0 : Array Value} {Z : State} (hw : ∀ d ∈ tables_1, d.before a0 Z = true) : (Jvm.Cond.fieldLink "java/util/ArrayList" (9 : Nat) "java/util/ArrayList" "elementData" "[Ljava/lang/Object;").before a0 Z = true := hw _ (List.mem_of_getElem? (i := 71) rfl)
theorem wd72 {a0 : Array Value} {Z : State} (hw : ∀ d ∈ tables_1, d.before a0 Z = true) : (Jvm.Cond.lays "java/util/ArrayList" "java/util/ArrayList" "elementData" "[Ljava/lang/Object;").before a0 Z = true := hw _ (List.mem_of_getElem? (i := 72) rfl)
theorem wd73 {a0 : Array Value} {Z : State} (hw : ∀ d ∈ tables_1, d.before a0 Z = true) : (Jvm.Cond.methodLink "com/example/rowforge/rowforge/ConstantNullablePinLaw" (46 : Nat) ({ cls := "com/example/rowforge/rowforge/Field$Constant", name := "nullable", desc := "()Z" } : Jvm.MethodName)).before a0 Z = true := hw _ (List.mem_of_getElem? (i := 73) rfl)
theorem wd74 {a0 : Array Value} {Z : State} (hw : ∀ d ∈ tables_1, d.before a0 Z = true) : (Jvm.Cond.declares ({ cls := "com/example/rowforge/rowforge/Field$Constant", name := "nullable", desc := "()Z" } : Jvm.MethodName)).before a0 Z = true := hw _ (List.mem_of_getElem? (i := 74) rfl)
theorem wd75 {a0 : Array Value} {Z : State} (hw : ∀ d ∈ tables_1, d.before a0 Z = true) : (Jvm.Cond.instanceMethod ({ cls := "com/example/rowforge/rowforge/Field$Constant", name := "nullable", desc := "()Z" } : Jvm.MethodName)).before a0 Z = true := hw _ (List.mem_of_getElem? (i := 75) rfl)
theorem wd76 {a0 : Array Value} {Z : State} (hw : ∀ d ∈ tables_1, d.before a0 Z = true) : (Jvm.Cond.selects "com/example/rowforge/rowforge/Field$Constant" ({ cls := "com/example/rowforge/rowforge/Field$Constant", name := "nullable", desc := "()Z" } : Jvm.MethodName) ({ cls := "com/example/rowforge/rowforge/Field$Constant", name := "nullable", desc := "()Z" } : Jvm.MethodName)).before a0 Z = true := hw _ (List.mem_of_getElem? (i := 76) rfl)
theorem wd77 {a0 : Array Value} {Z : State} (hw : ∀ d ∈ tables_1, d.before a0 Z = true) : (Jvm.Cond.code ({ cls := "com/example/rowforge/rowforge/Field$Constant", name := "nullable", desc := "()Z" } : Jvm.MethodName) prog_10_method_4_code (1 : Nat) (Option.some Jvm.ClassFile.FieldType.boolean)).before a0 Z = true := hw _ (List.mem_of_getElem? (i := 77) rfl)
theorem wd78 {a0 : Array Value} {Z : State} (hw : ∀ d ∈ tables_1, d.before a0 Z = true) : (Jvm.Cond.methodLink "com/example/rowforge/rowforge/ConstantNullablePinLaw" (50 : Nat) ({ cls := "com/example/rowforge/rowforge/Field$Constant", name := "value", desc := "(Ljava/util/List;)Ljava/lang/Object;" } : Jvm.MethodName)).before a0 Z = true := hw _ (List.mem_of_getElem? (i := 78) rfl)
theorem wd79 {a0 : Array Value} {Z : State} (hw : ∀ d ∈ tables_1, d.before a0 Z = true) : (Jvm.Cond.declares ({ cls := "com/example/rowforge/rowforge/Field$Constant", name := "value", desc := "(Ljava/util/List;)Ljava/lang/Object;" } : Jvm.MethodName)).before a0 Z = true := hw _ (List.mem_of_getElem? (i := 79) rfl)
theorem wd80 {a0 : Array Value} {Z : State} (hw : ∀ d ∈ tables_1, d.before a0 Z = true) : (Jvm.Cond.instanceMethod ({ cls := "com/example/rowforge/rowforge/Field$Constant", name := "value", desc := "(Ljava/util/List;)Ljava/lang/Object;" } : Jvm.MethodName)).before a0 Z = true := hw _ (List.mem_of_getElem? (i := 80) rfl)
theorem wd81 {a0 : Array Value} {Z : State} (hw : ∀ d ∈ tables_1, d.before a0 Z = true) : (Jvm.Cond.selects "com/example/rowforge/rowforge/Field$Constant" ({ cls := "com/example/rowforge/rowforge/Field$Constant", name := "value", desc := "(Ljava/util/List;)Ljava/lang/Object;" } : Jvm.MethodName) ({ cls := "com/example/rowforge/rowforge/Field$Constant", name := "value", desc := "(Ljava/util/List;)Ljava/lang/Object;" } : Jvm.MethodName)).before a0 Z = true := hw _ (List.mem_of_getElem? (i := 81) rfl)
theorem wd82 {a0 : Array Value} {Z : State} (hw : ∀ d ∈ tables_1, d.before a0 Z = true) : (Jvm.Cond.code ({ cls := "com/example/rowforge/rowforge/Field$Constant", name := "value", desc := "(Ljava/util/List;)Ljava/lang/Object;" } : Jvm.MethodName) prog_10_method_5_code (2 : Nat) (Option.some (Jvm.ClassFile.FieldType.object "java/lang/Object"))).before a0 Z = true := hw _ (List.mem_of_getElem? (i := 82) rfl)
theorem wd83 {a0 : Array Value} {Z : State} (hw : ∀ d ∈ tables_1, d.before a0 Z = true) : (Jvm.Cond.fieldLink "com/example/rowforge/rowforge/ConstantNullablePinLaw" (8 : Nat) "com/example/rowforge/rowforge/SqlType" "INTEGER" "Lcom/example/rowforge/rowforge/SqlType;").before a0 Z = true := hw _ (List.mem_of_getElem? (i := 83) rfl)
theorem wd84 {a0 : Array Value} {Z : State} (hw : ∀ d ∈ tables_1, d.before a0 Z = true) : (Jvm.Cond.laysStatic "com/example/rowforge/rowforge/SqlType" "INTEGER" "Lcom/example/rowforge/rowforge/SqlType;").before a0 Z = true := hw _ (List.mem_of_getElem? (i := 84) rfl)
theorem wd85 {a0 : Array Value} {Z : State} (hw : ∀ d ∈ tables_1, d.before a0 Z = true) : (Jvm.Cond.methodLink "com/example/rowforge/rowforge/ConstantNullablePinLaw" (26 : Nat) ({ cls := "java/lang/String", name := "valueOf", desc := "(C)Ljava/lang/String;" } : Jvm.MethodName)).before a0 Z = true := hw _ (List.mem_of_getElem? (i := 85) rfl)
theorem wd86 {a0 : Array Value} {Z : State} (hw : ∀ d ∈ tables_1, d.before a0 Z = true) : (Jvm.Cond.static ({ cls := "java/lang/String", name := "valueOf", desc := "(C)Ljava/lang/String;" } : Jvm.MethodName)).before a0 Z = true := hw _ (List.mem_of_getElem? (i := 86) rfl)
theorem wd87 {a0 : Array Value} {Z : State} (hw : ∀ d ∈ tables_1, d.before a0 Z = true) : (Jvm.Cond.code ({ cls := "java/lang/String", name := "valueOf", desc := "(C)Ljava/lang/String;" } : Jvm.MethodName) jdk_42_method_139_code (1 : Nat) (Option.some (Jvm.ClassFile.FieldType.object "java/lang/String"))).before a0 Z = true := hw _ (List.mem_of_getElem? (i := 87) rfl)
theorem wd88 {a0 : Array Value} {Z : State} (hw : ∀ d ∈ tables_1, d.before a0 Z = true) : (Jvm.Cond.fieldLink "java/lang/String" (38 : Nat) "java/lang/String" "COMPACT_STRINGS" "Z").before a0 Z = true := hw _ (List.mem_of_getElem? (i := 88) rfl)
theorem wd89 {a0 : Array Value} {Z : State} (hw : ∀ d ∈ tables_1, d.before a0 Z = true) : (Jvm.Cond.methodLink "java/lang/String" (1015 : Nat) ({ cls := "java/lang/StringLatin1", name := "canEncode", desc := "(C)Z" } : Jvm.MethodName)).before a0 Z = true := hw _ (List.mem_of_getElem? (i := 89) rfl)
theorem wd90 {a0 : Array Value} {Z : State} (hw : ∀ d ∈ tables_1, d.before a0 Z = true) : (Jvm.Cond.static ({ cls := "java/lang/StringLatin1", name := "canEncode", desc := "(C)Z" } : Jvm.MethodName)).before a0 Z = true := hw _ (List.mem_of_getElem? (i := 90) rfl)
theorem wd91 {a0 : Array Value} {Z : State} (hw : ∀ d ∈ tables_1, d.before a0 Z = true) : (Jvm.Cond.initialized "java/lang/StringLatin1").before a0 Z = true := hw _ (List.mem_of_getElem? (i := 91) rfl)
theorem wd92 {a0 : Array Value} {Z : State} (hw : ∀ d ∈ tables_1, d.before a0 Z = true) : (Jvm.Cond.code ({ cls := "java/lang/StringLatin1", name := "canEncode", desc := "(C)Z" } : Jvm.MethodName) jdk_43_method_3_code (1 : Nat) (Option.some Jvm.ClassFile.FieldType.boolean)).before a0 Z = true := hw _ (List.mem_of_getElem? (i := 92) rfl)
theorem wd93 {a0 : Array Value} {Z : State} (hw : ∀ d ∈ tables_1, d.before a0 Z = true) : (Jvm.Cond.classLink "java/lang/String" (10 : Nat) "java/lang/String").before a0 Z = true := hw _ (List.mem_of_getElem? (i := 93) rfl)
theorem wd94 {a0 : Array Value} {Z : State} (hw : ∀ d ∈ tables_1, d.before a0 Z = true) : (Jvm.Cond.methodLink "java/lang/String" (1018 : Nat) ({ cls := "java/lang/StringLatin1", name := "toBytes", desc := "(C)[B" } : Jvm.MethodName)).before a0 Z = true := hw _ (List.mem_of_getElem? (i := 94) rfl)
theorem wd95 {a0 : Array Value} {Z : State} (hw : ∀ d ∈ tables_1, d.before a0 Z = true) : (Jvm.Cond.static ({ cls := "java/lang/StringLatin1", name := "toBytes", desc := "(C)[B" } : Jvm.MethodName)).before a0 Z = true := hw _ (List.mem_of_getElem? (i := 95) rfl)
theorem wd96 {a0 : Array Value} {Z : State} (hw : ∀ d ∈ tables_1, d.before a0 Z = true) : (Jvm.Cond.code ({ cls := "java/lang/StringLatin1", name := "toBytes", desc := "(C)[B" } : Jvm.MethodName) jdk_43_method_46_code (1 : Nat) (Option.some (Jvm.ClassFile.FieldType.array Jvm.ClassFile.FieldType.byte))).before a0 Z = true := hw _ (List.mem_of_getElem? (i := 96) rfl)
theorem wd97 {a0 : Array Value} {Z : State} (hw : ∀ d ∈ tables_1, d.before a0 Z = true) : (Jvm.Cond.methodLink "java/lang/String" (209 : Nat) ({ cls := "java/lang/String", name := "<init>", desc := "([BB)V" } : Jvm.MethodName)).before a0 Z = true := hw _ (List.mem_of_getElem? (i := 97) rfl)
theorem wd98 {a0 : Array Value} {Z : State} (hw : ∀ d ∈ tables_1, d.before a0 Z = true) : (Jvm.Cond.instanceMethod ({ cls := "java/lang/String", name := "<init>", desc := "([BB)V" } : Jvm.MethodName)).before a0 Z = true := hw _ (List.mem_of_getElem? (i := 98) rfl)
theorem wd100 {a0 : Array Value} {Z : State} (hw : ∀ d ∈ tables_1, d.before a0 Z = true) : (Jvm.Cond.code ({ cls := "java/lang/String", name := "<init>", desc := "([BB)V" } : Jvm.MethodName) jdk_42_method_151_code (3 : Nat) (Option.none : Option Jvm.ClassFile.FieldType)).before a0 Z = true := hw _ (List.mem_of_getElem? (i := 100) rfl)
theorem wd101 {a0 : Array Value} {Z : State} (hw : ∀ d ∈ tables_1, d.before a0 Z = true) : (Jvm.Cond.methodLink "java/lang/String" (1 : Nat) ({ cls := "java/lang/Object", name := "<init>", desc := "()V" } : Jvm.MethodName)).before a0 Z = true := hw _ (List.mem_of_getElem? (i := 101) rfl)
theorem wd102 {a0 : Array Value} {Z : State} (hw : ∀ d ∈ tables_1, d.before a0 Z = true) : (Jvm.Cond.fieldLink "java/lang/String" (9 : Nat) "java/lang/String" "value" "[B").before a0 Z = true := hw _ (List.mem_of_getElem? (i := 102) rfl)
theorem wd103 {a0 : Array Value} {Z : State} (hw : ∀ d ∈ tables_1, d.before a0 Z = true) : (Jvm.Cond.fieldLink "java/lang/String" (15 : Nat) "java/lang/String" "coder" "B").before a0 Z = true := hw _ (List.mem_of_getElem? (i := 103) rfl)
theorem wd104 {a0 : Array Value} {Z : State} (hw : ∀ d ∈ tables_1, d.before a0 Z = true) : (Jvm.Cond.methodLink "com/example/rowforge/rowforge/ConstantNullablePinLaw" (17 : Nat) ({ cls := "java/lang/Long", name := "valueOf", desc := "(J)Ljava/lang/Long;" } : Jvm.MethodName)).before a0 Z = true := hw _ (List.mem_of_getElem? (i := 104) rfl)
theorem wd105 {a0 : Array Value} {Z : State} (hw : ∀ d ∈ tables_1, d.before a0 Z = true) : (Jvm.Cond.static ({ cls := "java/lang/Long", name := "valueOf", desc := "(J)Ljava/lang/Long;" } : Jvm.MethodName)).before a0 Z = true := hw _ (List.mem_of_getElem? (i := 105) rfl)
theorem wd106 {a0 : Array Value} {Z : State} (hw : ∀ d ∈ tables_1, d.before a0 Z = true) : (Jvm.Cond.initialized "java/lang/Long").before a0 Z = true := hw _ (List.mem_of_getElem? (i := 106) rfl)
theorem wd107 {a0 : Array Value} {Z : State} (hw : ∀ d ∈ tables_1, d.before a0 Z = true) : (Jvm.Cond.code ({ cls := "java/lang/Long", name := "valueOf", desc := "(J)Ljava/lang/Long;" } : Jvm.MethodName) jdk_35_method_24_code (3 : Nat) (Option.some (Jvm.ClassFile.FieldType.object "java/lang/Long"))).before a0 Z = true := hw _ (List.mem_of_getElem? (i := 107) rfl)
theorem wd108 {a0 : Array Value} {Z : State} (hw : ∀ d ∈ tables_1, d.before a0 Z = true) : (Jvm.Cond.constantLong "java/lang/Long" (230 : Nat) (-128 : Int64)).before a0 Z = true := hw _ (List.mem_of_getElem? (i := 108) rfl)
theorem wd109 {a0 : Array Value} {Z : State} (hw : ∀ d ∈ tables_1, d.before a0 Z = true) : (Jvm.Cond.classLink "java/lang/Long" (1 : Nat) "java/lang/Long").before a0 Z = true := hw _ (List.mem_of_getElem? (i := 109) rfl)
theorem wd110 {a0 : Array Value} {Z : State} (hw : ∀ d ∈ tables_1, d.before a0 Z = true) : (Jvm.Cond.instantiable "java/lang/Long" (1 : Nat)).before a0 Z = true := hw _ (List.mem_of_getElem? (i := 110) rfl)
theorem wd111 {a0 : Array Value} {Z : State} (hw : ∀ d ∈ tables_1, d.before a0 Z = true) : (Jvm.Cond.methodLink "java/lang/Long" (240 : Nat) ({ cls := "java/lang/Long", name := "<init>", desc := "(J)V" } : Jvm.MethodName)).before a0 Z = true := hw _ (List.mem_of_getElem? (i := 111) rfl)
theorem wd112 {a0 : Array Value} {Z : State} (hw : ∀ d ∈ tables_1, d.before a0 Z = true) : (Jvm.Cond.instanceMethod ({ cls := "java/lang/Long", name := "<init>", desc := "(J)V" } : Jvm.MethodName)).before a0 Z = true := hw _ (List.mem_of_getElem? (i := 112) rfl)
theorem wd114 {a0 : Array Value} {Z : State} (hw : ∀ d ∈ tables_1, d.before a0 Z = true) : (Jvm.Cond.code ({ cls := "java/lang/Long", name := "<init>", desc := "(J)V" } : Jvm.MethodName) jdk_35_method_26_code (3 : Nat) (Option.none : Option Jvm.ClassFile.FieldType)).before a0 Z = true := hw _ (List.mem_of_getElem? (i := 114) rfl)
theorem wd115 {a0 : Array Value} {Z : State} (hw : ∀ d ∈ tables_1, d.before a0 Z = true) : (Jvm.Cond.methodLink "java/lang/Long" (270 : Nat) ({ cls := "java/lang/Number", name := "<init>", desc := "()V" } : Jvm.MethodName)).before a0 Z = true := hw _ (List.mem_of_getElem? (i := 115) rfl)
theorem wd116 {a0 : Array Value} {Z : State} (hw : ∀ d ∈ tables_1, d.before a0 Z = true) : (Jvm.Cond.instanceMethod ({ cls := "java/lang/Number", name := "<init>", desc := "()V" } : Jvm.MethodName)).before a0 Z = true := hw _ (List.mem_of_getElem? (i := 116) rfl)
theorem wd119 {a0 : Array Value} {Z : State} (hw : ∀ d ∈ tables_1, d.before a0 Z = true) : (Jvm.Cond.initialized "java/lang/Number").before a0 Z = true := hw _ (List.mem_of_getElem? (i := 119) rfl)
theorem wd120 {a0 : Array Value} {Z : State} (hw : ∀ d ∈ tables_1, d.before a0 Z = true) : (Jvm.Cond.code ({ cls := "java/lang/Number", name := "<init>", desc := "()V" } : Jvm.MethodName) jdk_18_method_1_code (1 : Nat) (Option.none : Option Jvm.ClassFile.FieldType)).before a0 Z = true := hw _ (List.mem_of_getElem? (i := 120) rfl)
theorem wd121 {a0 : Array Value} {Z : State} (hw : ∀ d ∈ tables_1, d.before a0 Z = true) : (Jvm.Cond.methodLink "java/lang/Number" (1 : Nat) ({ cls := "java/lang/Object", name := "<init>", desc := "()V" } : Jvm.MethodName)).before a0 Z = true := hw _ (List.mem_of_getElem? (i := 121) rfl)
theorem wd122 {a0 : Array Value} {Z : State} (hw : ∀ d ∈ tables_1, d.before a0 Z = true) : (Jvm.Cond.fieldLink "java/lang/Long" (273 : Nat) "java/lang/Long" "value" "J").before a0 Z = true := hw _ (List.mem_of_getElem? (i := 122) rfl)
theorem wd123 {a0 : Array Value} {Z : State} (hw : ∀ d ∈ tables_1, d.before a0 Z = true) : (Jvm.Cond.laysFinal "java/lang/Long" "java/lang/Long" "value" "J").before a0 Z = true := hw _ (List.mem_of_getElem? (i := 123) rfl)
theorem wd124 {a0 : Array Value} {Z : State} (hw : ∀ d ∈ tables_1, d.before a0 Z = true) : (Jvm.Cond.fieldLink "com/example/rowforge/rowforge/ConstantNullablePinLaw" (23 : Nat) "com/example/rowforge/rowforge/SqlType" "BIGINT" "Lcom/example/rowforge/rowforge/SqlType;").before a0 Z = true := hw _ (List.mem_of_getElem? (i := 124) rfl)
theorem wd125 {a0 : Array Value} {Z : State} (hw : ∀ d ∈ tables_1, d.before a0 Z = true) : (Jvm.Cond.laysStatic "com/example/rowforge/rowforge/SqlType" "BIGINT" "Lcom/example/rowforge/rowforge/SqlType;").before a0 Z = true := hw _ (List.mem_of_getElem? (i := 125) rfl)
theorem wd126 {a0 : Array Value} {Z : State} (hw : ∀ d ∈ tables_1, d.before a0 Z = true) : (Jvm.Cond.constantLong "java/lang/Long" (232 : Nat) (127 : Int64)).before a0 Z = true := hw _ (List.mem_of_getElem? (i := 126) rfl)
theorem wd127 {a0 : Array Value} {Z : State} (hw : ∀ d ∈ tables_1, d.before a0 Z = true) : (Jvm.Cond.fieldLink "java/lang/Long" (234 : Nat) "java/lang/Long$LongCache" "cache" "[Ljava/lang/Long;").before a0 Z = true := hw _ (List.mem_of_getElem? (i := 127) rfl)
theorem own_wS {a0 : Array Value} {Z : State} (hw : ∀ d ∈ tables_1, d.before a0 Z = true) : ∀ a ∈ Bundle.stringAtoms, a.before a0 Z = true := by
  intro d hd
  simp only [Bundle.stringAtoms, List.mem_cons, List.not_mem_nil, or_false] at hd
  rcases hd with rfl | rfl | rfl | rfl | rfl | rfl | rfl
  · exact (wd8 hw)
  · exact (wd9 hw)
  · exact (wd10 hw)
  · exact (wd11 hw)
  · exact (wd12 hw)
  · exact (wd13 hw)
  · exact (wd14 hw)
theorem d1_0 : decode prog_2_method_1_code 0 = .ok (.aload_n 0, 1) := by decide +kernel
theorem d1_1 : decode prog_2_method_1_code 1 = .ok (.invokespecial 3, 3) := by decide +kernel
theorem d2_0 : decode jdk_30_method_1_code 0 = .ok (.aload_n 0, 1) := by decide +kernel
theorem d2_1 : decode jdk_30_method_1_code 1 = .ok (.invokespecial 1, 3) := by decide +kernel
theorem d2_4 : decode jdk_30_method_1_code 4 = .ok (.return_, 1) := by decide +kernel
theorem ef_2_0 (m : MethodId) (x0 : Addr) : entryFrame m #[(.ref x0)] 1 = mkF m 0 #[.val (.ref x0)] [] := by first | (simp [entryFrame, mkF, argsToLocals, Value.category]; done) | rfl
theorem pn_0 : plainName "java/lang/Record" = true := by first | (simp [plainName, overriddenIn]; done) | decide +kernel
def Q_rm2_0 (Z : State) (a1 : Addr) (h0 : Heap) (n0 : Nat) (v : Option Value) (h : Heap) (L : List Loc) : Prop := v = none ∧ Fr n0 L ∧ h = h0
set_option maxRecDepth 65536 in
set_option maxHeartbeats 40000000 in
theorem rm2_0 (l : Launch) (Z : State) (a0 : Array Value) (hw : ∀ d ∈ tables_1, d.before a0 Z = true) (ws : List Jvm.Cond) (a1 : Addr) (h0 : Heap) (n0 : Nat) (OL0 : Old Z n0 h0)  :
    MetFree l (⟨"java/lang/Record", "<init>", "()V"⟩ : MethodName) (head1 (Jvm.Cond.code (⟨"java/lang/Record", "<init>", "()V"⟩ : MethodName) jdk_30_method_1_code 1 none :: ws) ({ frames := 1, cells := 0, slots := 0, locals := 12 } : Room)) (fun a U => a = #[(.ref a1)] ∧ Z.Warmed39 U.vm ∧ U.heap = h0) (fun _ _ _ _ _ => True) (fun _ U o U' => ∃ v L, o = .returned v ∧ Q_rm2_0 Z a1 h0 n0 v U'.heap L ∧ FrameEnd U o U' L ({ frames := 1, cells := 0, slots := 0, locals := 12 } : Room).cells ({ frames := 1, cells := 0, slots := 0, locals := 12 } : Room).slots) := by
  refine MetFree.of_bodySF (plainFor_of_name pn_0) hisR ?_
  intro p e s m args below meth c s₁ Bd hml0 hP hK
  obtain ⟨rfl, hZ, hh⟩ := hP
  have hx := Bd.exec
  have hby := Bd.bytes
  have hml : c.maxLocals = 1 := hml0
  have hown : s.vm.findClass "java/lang/Record" = some m.cls := findClass_of_methodNamed Bd.named
  have hnm := (name_of_methodNamed Bd.named Bd.method).1
  have X0 : Stand p l e ({ frames := 1, cells := 0, slots := 0, locals := 12 } : Room) s m #[(.ref a1)] below meth c s₁ [] 0 0 := Stand.of_body Bd
  have e0 : s₁.heap = h0 := by rw [← hh, Bd.state]; rfl
  have N0 := Fr.nil n0
  have pre0 : ∀ t, Steps p.tables e below (s₁.setTop (mkF m 0 #[.val (.ref a1)] [])) t → Steps p.tables e below (s₁.setTop (entryFrame m #[(.ref a1)] 1)) t := fun t k => castTop (ef_2_0 m a1) k
  obtain ⟨T2, X2, e2, st2⟩ := initO X0 hx hZ hown (wd23 hw) (wd24 hw) (wd25 hw) e0 (g := (mkF m 1 #[.val (.ref a1)] [(.ref a1)])) rfl (by rw [hml]; rfl) rfl (hb hby d2_1) (by decide) (W := 0) (by show 2 * 0 + _ ≤ _; exact Nat.le_of_eq rfl) (by decide)
  obtain ⟨fs, hr, hrun, hended, hW, hsame⟩ := X2.leave (v := none) (fun _ => rfl)
  refine ⟨_, _, pre0 _ ?_, hrun, hended, _, _, rfl, ?_, ⟨_, rfl⟩, hW, hsame.mono (by decide) (by decide)⟩
  · show Steps p.tables e below (s₁.setTop (mkF m 0 #[.val (.ref a1)] [])) _
    refine XS.aloadN X0.here hx rfl (hb hby d2_0) rfl rfl ?_
    show Steps p.tables e below (s₁.setTop (mkF m 1 #[.val (.ref a1)] [(.ref a1)])) _
    refine st2 _ ?_
    show Steps p.tables e below (T2.setTop (mkF m 4 #[.val (.ref a1)] [])) _
    exact X2.returnOut hx Bd.returns (hb hby d2_4) hr
  · show Q_rm2_0 Z a1 h0 n0 _ T2.heap _
    rw [e2]
    exact ⟨rfl, N0, rfl⟩
theorem pd_0 : parseMethodDescriptor "()V" = some ⟨[], none⟩ := by decide +kernel
theorem d1_4 : decode prog_2_method_1_code 4 = .ok (.aload_n 0, 1) := by decide +kernel
theorem d1_5 : decode prog_2_method_1_code 5 = .ok (.aload_n 1, 1) := by decide +kernel
theorem d1_6 : decode prog_2_method_1_code 6 = .ok (.putfield 9, 3) := by decide +kernel
theorem d1_9 : decode prog_2_method_1_code 9 = .ok (.aload_n 0, 1) := by decide +kernel
theorem d1_10 : decode prog_2_method_1_code 10 = .ok (.iload_n 2, 1) := by decide +kernel
theorem d1_11 : decode prog_2_method_1_code 11 = .ok (.putfield 15, 3) := by decide +kernel
theorem d1_14 : decode prog_2_method_1_code 14 = .ok (.aload_n 0, 1) := by decide +kernel
theorem d1_15 : decode prog_2_method_1_code 15 = .ok (.aload_n 3, 1) := by decide +kernel
theorem d1_16 : decode prog_2_method_1_code 16 = .ok (.putfield 19, 3) := by decide +kernel
theorem d1_19 : decode prog_2_method_1_code 19 = .ok (.aload_n 0, 1) := by decide +kernel
theorem d1_20 : decode prog_2_method_1_code 20 = .ok (.iload 4, 2) := by decide +kernel
theorem d1_22 : decode prog_2_method_1_code 22 = .ok (.putfield 23, 3) := by decide +kernel
theorem d1_25 : decode prog_2_method_1_code 25 = .ok (.aload_n 0, 1) := by decide +kernel
theorem d1_26 : decode prog_2_method_1_code 26 = .ok (.iload 5, 2) := by decide +kernel
theorem d1_28 : decode prog_2_method_1_code 28 = .ok (.putfield 26, 3) := by decide +kernel
theorem d1_31 : decode prog_2_method_1_code 31 = .ok (.aload_n 0, 1) := by decide +kernel
theorem d1_32 : decode prog_2_method_1_code 32 = .ok (.iload 6, 2) := by decide +kernel
theorem d1_34 : decode prog_2_method_1_code 34 = .ok (.putfield 29, 3) := by decide +kernel
theorem d1_37 : decode prog_2_method_1_code 37 = .ok (.return_, 1) := by decide +kernel
theorem ef_1_1 (m : MethodId) (x0 : Addr) (x1 : Addr) (x3 : Addr) : entryFrame m #[(.ref x0), (.ref x1), (.int (-1 : Int32)), (.ref x3), (.int (2147483647 : Int32)), (.int (0 : Int32)), (.int (0 : Int32))] 7 = mkF m 0 #[.val (.ref x0), .val (.ref x1), .val (.int (-1 : Int32)), .val (.ref x3), .val (.int (2147483647 : Int32)), .val (.int (0 : Int32)), .val (.int (0 : Int32))] [] := by first | (simp [entryFrame, mkF, argsToLocals, Value.category]; done) | rfl
theorem pn_1 : plainName "com/example/rowforge/rowforge/Column" = true := by first | (simp [plainName, overriddenIn]; done) | decide +kernel
def Q_rm1_0 (Z : State) (a1 : Addr) (a2 : Addr) (w3 : Addr) (h0 : Heap) (n0 : Nat) (v : Option Value) (h : Heap) (L : List Loc) : Prop := v = none ∧ Fr n0 L ∧ Keep h0 h [a1] ∧ Fld Z h a1 "com/example/rowforge/rowforge/Column" "name" "Ljava/lang/String;" (.ref a2) ∧ Fld Z h a1 "com/example/rowforge/rowforge/Column" "position" "I" (.int (-1 : Int32)) ∧ Fld Z h a1 "com/example/rowforge/rowforge/Column" "type" "Lcom/example/rowforge/rowforge/SqlType;" (.ref w3) ∧ Fld Z h a1 "com/example/rowforge/rowforge/Column" "length" "I" (.int (2147483647 : Int32)) ∧ Fld Z h a1 "com/example/rowforge/rowforge/Column" "scale" "I" (.int (0 : Int32)) ∧ Fld Z h a1 "com/example/rowforge/rowforge/Column" "nullable" "Z" (.int (0 : Int32))
set_option maxRecDepth 65536 in
set_option maxHeartbeats 40000000 in
theorem rm1_0 (l : Launch) (Z : State) (a0 : Array Value) (hw : ∀ d ∈ tables_1, d.before a0 Z = true) (ws : List Jvm.Cond) (a1 : Addr) (a2 : Addr) (w3 : Addr) (h0 : Heap) (n0 : Nat) (OL0 : Old Z n0 h0) (pr1 : Exa Z h0 a1 "com/example/rowforge/rowforge/Column") (pr2 : Fld Z h0 a1 "com/example/rowforge/rowforge/Column" "name" "Ljava/lang/String;" .null) (pr3 : n0 ≤ a1) (pr4 : Fld Z h0 a1 "com/example/rowforge/rowforge/Column" "position" "I" (.int (0 : Int32))) (pr5 : Fld Z h0 a1 "com/example/rowforge/rowforge/Column" "type" "Lcom/example/rowforge/rowforge/SqlType;" .null) (pr6 : Fld Z h0 a1 "com/example/rowforge/rowforge/Column" "length" "I" (.int (0 : Int32))) (pr7 : Fld Z h0 a1 "com/example/rowforge/rowforge/Column" "scale" "I" (.int (0 : Int32))) (pr8 : Fld Z h0 a1 "com/example/rowforge/rowforge/Column" "nullable" "Z" (.int (0 : Int32))) :
    MetFree l (⟨"com/example/rowforge/rowforge/Column", "<init>", "(Ljava/lang/String;ILcom/example/rowforge/rowforge/SqlType;IIZ)V"⟩ : MethodName) (head1 (Jvm.Cond.code (⟨"com/example/rowforge/rowforge/Column", "<init>", "(Ljava/lang/String;ILcom/example/rowforge/rowforge/SqlType;IIZ)V"⟩ : MethodName) prog_2_method_1_code 7 none :: ws) ({ frames := 2, cells := 0, slots := 0, locals := 24 } : Room)) (fun a U => a = #[(.ref a1), (.ref a2), (.int (-1 : Int32)), (.ref w3), (.int (2147483647 : Int32)), (.int (0 : Int32)), (.int (0 : Int32))] ∧ Z.Warmed39 U.vm ∧ U.heap = h0) (fun _ _ _ _ _ => True) (fun _ U o U' => ∃ v L, o = .returned v ∧ Q_rm1_0 Z a1 a2 w3 h0 n0 v U'.heap L ∧ FrameEnd U o U' L ({ frames := 2, cells := 0, slots := 0, locals := 24 } : Room).cells ({ frames := 2, cells := 0, slots := 0, locals := 24 } : Room).slots) := by
  refine MetFree.of_bodySF (plainFor_of_name pn_1) hisR ?_
  intro p e s m args below meth c s₁ Bd hml0 hP hK
  obtain ⟨rfl, hZ, hh⟩ := hP
  have hx := Bd.exec
  have hby := Bd.bytes
  have hml : c.maxLocals = 7 := hml0
  have hown : s.vm.findClass "com/example/rowforge/rowforge/Column" = some m.cls := findClass_of_methodNamed Bd.named
  have hnm := (name_of_methodNamed Bd.named Bd.method).1
  have X0 : Stand p l e ({ frames := 2, cells := 0, slots := 0, locals := 24 } : Room) s m #[(.ref a1), (.ref a2), (.int (-1 : Int32)), (.ref w3), (.int (2147483647 : Int32)), (.int (0 : Int32)), (.int (0 : Int32))] below meth c s₁ [] 0 0 := Stand.of_body Bd
  have e0 : s₁.heap = h0 := by rw [← hh, Bd.state]; rfl
  have N0 := Fr.nil n0
  have pre0 : ∀ t, Steps p.tables e below (s₁.setTop (mkF m 0 #[.val (.ref a1), .val (.ref a2), .val (.int (-1 : Int32)), .val (.ref w3), .val (.int (2147483647 : Int32)), .val (.int (0 : Int32)), .val (.int (0 : Int32))] [])) t → Steps p.tables e below (s₁.setTop (entryFrame m #[(.ref a1), (.ref a2), (.int (-1 : Int32)), (.ref w3), (.int (2147483647 : Int32)), (.int (0 : Int32)), (.int (0 : Int32))] 7)) t := fun t k => castTop (ef_1_1 m a1 a2 w3) k
  obtain ⟨_, _, ⟨T4, L4, k4, n4⟩, -, X4, ⟨Lc4, hQ4, l4, y4, z4⟩, st4⟩ := X0.specialBack hx (y := (⟨"java/lang/Record", "<init>", "()V"⟩ : MethodName)) rfl hown (mvT hZ (wd18 hw)) (mvT hZ (wd19 hw)) (mvT hZ (wd22 hw)) (by decide) (backOf (W := 0) (rm2_0 l Z a0 hw [] a1 h0 n0 OL0 ) hZ (wd22 hw) (wd21 hw) (by decide) (by decide)) (g := (mkF m 1 #[.val (.ref a1), .val (.ref a2), .val (.int (-1 : Int32)), .val (.ref w3), .val (.int (2147483647 : Int32)), .val (.int (0 : Int32)), .val (.int (0 : Int32))] [(.ref a1)])) rfl (by rw [hml]; rfl) (Steps.refl _) (a := a1) (argsL := []) (rest := []) (lenOf pd_0 rfl) rfl (by show 2 * 0 + _ ≤ _; exact Nat.le_of_eq rfl) (hb hby d1_1) (fun _ _ => ⟨rfl, e0, (by decide : 0 + 0 ≤ _), (by decide : 0 + 0 ≤ _)⟩)
  dsimp only [Pt.U, Pt.locs, Pt.cells, Pt.slots] at X4 l4 y4 z4 st4 hQ4
  subst l4 y4 z4
  obtain ⟨rfl, Nq4, ec4⟩ := hQ4
  have N4 := Fr.app N0 Nq4
  obtain ⟨T5, h5, X5, e5, W5, st5⟩ := putF X4 hx hZ hown (host := "") (Or.inl (wd26 hw)) Via.refl ec4 pr2 pr1 (Or.inr ⟨(wd27 hw), rfl, hnm⟩) (wd5 hw) (ty := (.object "java/lang/String")) (by decide) rfl rfl (g := (mkF m 6 #[.val (.ref a1), .val (.ref a2), .val (.int (-1 : Int32)), .val (.ref w3), .val (.int (2147483647 : Int32)), .val (.int (0 : Int32)), .val (.int (0 : Int32))] [(.ref a2), (.ref a1)])) rfl rfl (hb hby d1_6)
  have Fw5 := pr2.same W5
  have KK5 : Keep h0 h5 [a1] := (Keep.refl h0 [a1]).wr W5 (Or.inl (List.mem_of_getElem? (i := 0) rfl))
  have OL5 := OL0.wr W5 pr3
  have N5 := Fr.snoc X5 N4 pr3
  have fc6 := (pr1.wr W5)
  have fc7 := (pr4.other W5 (Or.inr (slot_ne (Or.inr (wd29 hw)) (Or.inr (wd27 hw)) (by decide) (t := .int) (t' := (.object "java/lang/String")) (by decide) (by decide))))
  obtain ⟨T8, h8, X8, e8, W8, st8⟩ := putF X5 hx hZ hown (host := "") (Or.inl (wd28 hw)) Via.refl e5 fc7 fc6 (Or.inr ⟨(wd29 hw), rfl, hnm⟩) (wd5 hw) (ty := .int) (by decide) rfl rfl (g := (mkF m 11 #[.val (.ref a1), .val (.ref a2), .val (.int (-1 : Int32)), .val (.ref w3), .val (.int (2147483647 : Int32)), .val (.int (0 : Int32)), .val (.int (0 : Int32))] [(.int (-1 : Int32)), (.ref a1)])) rfl rfl (hb hby d1_11)
  have Fw8 := fc7.same W8
  have KK8 : Keep h0 h8 [a1] := KK5.wr W8 (Or.inl (List.mem_of_getElem? (i := 0) rfl))
  have OL8 := OL5.wr W8 pr3
  have N8 := Fr.snoc X8 N5 pr3
  have fc9 := (fc6.wr W8)
  have fc10 := ((pr5.other W5 (Or.inr (slot_ne (Or.inr (wd31 hw)) (Or.inr (wd27 hw)) (by decide) (t := (.object "com/example/rowforge/rowforge/SqlType")) (t' := (.object "java/lang/String")) (by decide) (by decide)))).other W8 (Or.inr (slot_ne (Or.inr (wd31 hw)) (Or.inr (wd29 hw)) (by decide) (t := (.object "com/example/rowforge/rowforge/SqlType")) (t' := .int) (by decide) (by decide))))
  obtain ⟨T11, h11, X11, e11, W11, st11⟩ := putF X8 hx hZ hown (host := "") (Or.inl (wd30 hw)) Via.refl e8 fc10 fc9 (Or.inr ⟨(wd31 hw), rfl, hnm⟩) (wd5 hw) (ty := (.object "com/example/rowforge/rowforge/SqlType")) (by decide) rfl rfl (g := (mkF m 16 #[.val (.ref a1), .val (.ref a2), .val (.int (-1 : Int32)), .val (.ref w3), .val (.int (2147483647 : Int32)), .val (.int (0 : Int32)), .val (.int (0 : Int32))] [(.ref w3), (.ref a1)])) rfl rfl (hb hby d1_16)
  have Fw11 := fc10.same W11
  have KK11 : Keep h0 h11 [a1] := KK8.wr W11 (Or.inl (List.mem_of_getElem? (i := 0) rfl))
  have OL11 := OL8.wr W11 pr3
  have N11 := Fr.snoc X11 N8 pr3
  have fc12 := (fc9.wr W11)
  have fc13 := (((pr6.other W5 (Or.inr (slot_ne (Or.inr (wd33 hw)) (Or.inr (wd27 hw)) (by decide) (t := .int) (t' := (.object "java/lang/String")) (by decide) (by decide)))).other W8 (Or.inr (slot_ne (Or.inr (wd33 hw)) (Or.inr (wd29 hw)) (by decide) (t := .int) (t' := .int) (by decide) (by decide)))).other W11 (Or.inr (slot_ne (Or.inr (wd33 hw)) (Or.inr (wd31 hw)) (by decide) (t := .int) (t' := (.object "com/example/rowforge/rowforge/SqlType")) (by decide) (by decide))))
  obtain ⟨T14, h14, X14, e14, W14, st14⟩ := putF X11 hx hZ hown (host := "") (Or.inl (wd32 hw)) Via.refl e11 fc13 fc12 (Or.inr ⟨(wd33 hw), rfl, hnm⟩) (wd5 hw) (ty := .int) (by decide) rfl rfl (g := (mkF m 22 #[.val (.ref a1), .val (.ref a2), .val (.int (-1 : Int32)), .val (.ref w3), .val (.int (2147483647 : Int32)), .val (.int (0 : Int32)), .val (.int (0 : Int32))] [(.int (2147483647 : Int32)), (.ref a1)])) rfl rfl (hb hby d1_22)
  have Fw14 := fc13.same W14
  have KK14 : Keep h0 h14 [a1] := KK11.wr W14 (Or.inl (List.mem_of_getElem? (i := 0) rfl))
  have OL14 := OL11.wr W14 pr3
  have N14 := Fr.snoc X14 N11 pr3
  have fc15 := (fc12.wr W14)
  have fc16 := ((((pr7.other W5 (Or.inr (slot_ne (Or.inr (wd35 hw)) (Or.inr (wd27 hw)) (by decide) (t := .int) (t' := (.object "java/lang/String")) (by decide) (by decide)))).other W8 (Or.inr (slot_ne (Or.inr (wd35 hw)) (Or.inr (wd29 hw)) (by decide) (t := .int) (t' := .int) (by decide) (by decide)))).other W11 (Or.inr (slot_ne (Or.inr (wd35 hw)) (Or.inr (wd31 hw)) (by decide) (t := .int) (t' := (.object "com/example/rowforge/rowforge/SqlType")) (by decide) (by decide)))).other W14 (Or.inr (slot_ne (Or.inr (wd35 hw)) (Or.inr (wd33 hw)) (by decide) (t := .int) (t' := .int) (by decide) (by decide))))
  obtain ⟨T17, h17, X17, e17, W17, st17⟩ := putF X14 hx hZ hown (host := "") (Or.inl (wd34 hw)) Via.refl e14 fc16 fc15 (Or.inr ⟨(wd35 hw), rfl, hnm⟩) (wd5 hw) (ty := .int) (by decide) rfl rfl (g := (mkF m 28 #[.val (.ref a1), .val (.ref a2), .val (.int (-1 : Int32)), .val (.ref w3), .val (.int (2147483647 : Int32)), .val (.int (0 : Int32)), .val (.int (0 : Int32))] [(.int (0 : Int32)), (.ref a1)])) rfl rfl (hb hby d1_28)
  have Fw17 := fc16.same W17
  have KK17 : Keep h0 h17 [a1] := KK14.wr W17 (Or.inl (List.mem_of_getElem? (i := 0) rfl))
  have OL17 := OL14.wr W17 pr3
  have N17 := Fr.snoc X17 N14 pr3
  have fc18 := (fc15.wr W17)
  have fc19 := (((((pr8.other W5 (Or.inr (slot_ne (Or.inr (wd37 hw)) (Or.inr (wd27 hw)) (by decide) (t := .boolean) (t' := (.object "java/lang/String")) (by decide) (by decide)))).other W8 (Or.inr (slot_ne (Or.inr (wd37 hw)) (Or.inr (wd29 hw)) (by decide) (t := .boolean) (t' := .int) (by decide) (by decide)))).other W11 (Or.inr (slot_ne (Or.inr (wd37 hw)) (Or.inr (wd31 hw)) (by decide) (t := .boolean) (t' := (.object "com/example/rowforge/rowforge/SqlType")) (by decide) (by decide)))).other W14 (Or.inr (slot_ne (Or.inr (wd37 hw)) (Or.inr (wd33 hw)) (by decide) (t := .boolean) (t' := .int) (by decide) (by decide)))).other W17 (Or.inr (slot_ne (Or.inr (wd37 hw)) (Or.inr (wd35 hw)) (by decide) (t := .boolean) (t' := .int) (by decide) (by decide))))
  obtain ⟨T20, h20, X20, e20, W20, st20⟩ := putFN X17 hx hZ hown (wd36 hw) Via.refl e17 fc19 fc18 (Or.inr ⟨(wd37 hw), rfl, hnm⟩) (wd5 hw) (ty := .boolean) (v' := (.int (0 : Int32))) (by decide) rfl rfl (g := (mkF m 34 #[.val (.ref a1), .val (.ref a2), .val (.int (-1 : Int32)), .val (.ref w3), .val (.int (2147483647 : Int32)), .val (.int (0 : Int32)), .val (.int (0 : Int32))] [(.int (0 : Int32)), (.ref a1)])) rfl rfl (hb hby d1_34)
  have Fw20 := fc19.same W20
  have KK20 : Keep h0 h20 [a1] := KK17.wr W20 (Or.inl (List.mem_of_getElem? (i := 0) rfl))
  have OL20 := OL17.wr W20 pr3
  have N20 := Fr.snoc X20 N17 pr3
  have fc21 := (((((Fw5.other W8 (Or.inr (slot_ne (Or.inr (wd27 hw)) (Or.inr (wd29 hw)) (by decide) (t := (.object "java/lang/String")) (t' := .int) (by decide) (by decide)))).other W11 (Or.inr (slot_ne (Or.inr (wd27 hw)) (Or.inr (wd31 hw)) (by decide) (t := (.object "java/lang/String")) (t' := (.object "com/example/rowforge/rowforge/SqlType")) (by decide) (by decide)))).other W14 (Or.inr (slot_ne (Or.inr (wd27 hw)) (Or.inr (wd33 hw)) (by decide) (t := (.object "java/lang/String")) (t' := .int) (by decide) (by decide)))).other W17 (Or.inr (slot_ne (Or.inr (wd27 hw)) (Or.inr (wd35 hw)) (by decide) (t := (.object "java/lang/String")) (t' := .int) (by decide) (by decide)))).other W20 (Or.inr (slot_ne (Or.inr (wd27 hw)) (Or.inr (wd37 hw)) (by decide) (t := (.object "java/lang/String")) (t' := .boolean) (by decide) (by decide))))
  have fc22 := ((((Fw8.other W11 (Or.inr (slot_ne (Or.inr (wd29 hw)) (Or.inr (wd31 hw)) (by decide) (t := .int) (t' := (.object "com/example/rowforge/rowforge/SqlType")) (by decide) (by decide)))).other W14 (Or.inr (slot_ne (Or.inr (wd29 hw)) (Or.inr (wd33 hw)) (by decide) (t := .int) (t' := .int) (by decide) (by decide)))).other W17 (Or.inr (slot_ne (Or.inr (wd29 hw)) (Or.inr (wd35 hw)) (by decide) (t := .int) (t' := .int) (by decide) (by decide)))).other W20 (Or.inr (slot_ne (Or.inr (wd29 hw)) (Or.inr (wd37 hw)) (by decide) (t := .int) (t' := .boolean) (by decide) (by decide))))
  have fc23 := (((Fw11.other W14 (Or.inr (slot_ne (Or.inr (wd31 hw)) (Or.inr (wd33 hw)) (by decide) (t := (.object "com/example/rowforge/rowforge/SqlType")) (t' := .int) (by decide) (by decide)))).other W17 (Or.inr (slot_ne (Or.inr (wd31 hw)) (Or.inr (wd35 hw)) (by decide) (t := (.object "com/example/rowforge/rowforge/SqlType")) (t' := .int) (by decide) (by decide)))).other W20 (Or.inr (slot_ne (Or.inr (wd31 hw)) (Or.inr (wd37 hw)) (by decide) (t := (.object "com/example/rowforge/rowforge/SqlType")) (t' := .boolean) (by decide) (by decide))))
  have fc24 := ((Fw14.other W17 (Or.inr (slot_ne (Or.inr (wd33 hw)) (Or.inr (wd35 hw)) (by decide) (t := .int) (t' := .int) (by decide) (by decide)))).other W20 (Or.inr (slot_ne (Or.inr (wd33 hw)) (Or.inr (wd37 hw)) (by decide) (t := .int) (t' := .boolean) (by decide) (by decide))))
  have fc25 := (Fw17.other W20 (Or.inr (slot_ne (Or.inr (wd35 hw)) (Or.inr (wd37 hw)) (by decide) (t := .int) (t' := .boolean) (by decide) (by decide))))
  obtain ⟨fs, hr, hrun, hended, hW, hsame⟩ := X20.leave (v := none) (fun _ => rfl)
  refine ⟨_, _, pre0 _ ?_, hrun, hended, _, _, rfl, ?_, ⟨_, rfl⟩, hW, hsame.mono (by decide) (by decide)⟩
  · show Steps p.tables e below (s₁.setTop (mkF m 0 #[.val (.ref a1), .val (.ref a2), .val (.int (-1 : Int32)), .val (.ref w3), .val (.int (2147483647 : Int32)), .val (.int (0 : Int32)), .val (.int (0 : Int32))] [])) _
    refine XS.aloadN X0.here hx rfl (hb hby d1_0) rfl rfl ?_
    show Steps p.tables e below (s₁.setTop (mkF m 1 #[.val (.ref a1), .val (.ref a2), .val (.int (-1 : Int32)), .val (.ref w3), .val (.int (2147483647 : Int32)), .val (.int (0 : Int32)), .val (.int (0 : Int32))] [(.ref a1)])) _
    refine st4.trans ?_
    show Steps p.tables e below (T4.setTop (mkF m 4 #[.val (.ref a1), .val (.ref a2), .val (.int (-1 : Int32)), .val (.ref w3), .val (.int (2147483647 : Int32)), .val (.int (0 : Int32)), .val (.int (0 : Int32))] [])) _
    refine XS.aloadN X4.here hx rfl (hb hby d1_4) rfl rfl ?_
    refine XS.aloadN X4.here hx rfl (hb hby d1_5) rfl rfl ?_
    show Steps p.tables e below (T4.setTop (mkF m 6 #[.val (.ref a1), .val (.ref a2), .val (.int (-1 : Int32)), .val (.ref w3), .val (.int (2147483647 : Int32)), .val (.int (0 : Int32)), .val (.int (0 : Int32))] [(.ref a2), (.ref a1)])) _
    refine st5 _ ?_
    show Steps p.tables e below (T5.setTop (mkF m 9 #[.val (.ref a1), .val (.ref a2), .val (.int (-1 : Int32)), .val (.ref w3), .val (.int (2147483647 : Int32)), .val (.int (0 : Int32)), .val (.int (0 : Int32))] [])) _
    refine XS.aloadN X5.here hx rfl (hb hby d1_9) rfl rfl ?_
    refine XS.iloadN X5.here hx rfl (hb hby d1_10) rfl ?_
    show Steps p.tables e below (T5.setTop (mkF m 11 #[.val (.ref a1), .val (.ref a2), .val (.int (-1 : Int32)), .val (.ref w3), .val (.int (2147483647 : Int32)), .val (.int (0 : Int32)), .val (.int (0 : Int32))] [(.int (-1 : Int32)), (.ref a1)])) _
    refine st8 _ ?_
    show Steps p.tables e below (T8.setTop (mkF m 14 #[.val (.ref a1), .val (.ref a2), .val (.int (-1 : Int32)), .val (.ref w3), .val (.int (2147483647 : Int32)), .val (.int (0 : Int32)), .val (.int (0 : Int32))] [])) _
    refine XS.aloadN X8.here hx rfl (hb hby d1_14) rfl rfl ?_
    refine XS.aloadN X8.here hx rfl (hb hby d1_15) rfl rfl ?_
    show Steps p.tables e below (T8.setTop (mkF m 16 #[.val (.ref a1), .val (.ref a2), .val (.int (-1 : Int32)), .val (.ref w3), .val (.int (2147483647 : Int32)), .val (.int (0 : Int32)), .val (.int (0 : Int32))] [(.ref w3), (.ref a1)])) _
    refine st11 _ ?_
    show Steps p.tables e below (T11.setTop (mkF m 19 #[.val (.ref a1), .val (.ref a2), .val (.int (-1 : Int32)), .val (.ref w3), .val (.int (2147483647 : Int32)), .val (.int (0 : Int32)), .val (.int (0 : Int32))] [])) _
    refine XS.aloadN X11.here hx rfl (hb hby d1_19) rfl rfl ?_
    refine XS.iload X11.here hx rfl (hb hby d1_20) rfl ?_
    show Steps p.tables e below (T11.setTop (mkF m 22 #[.val (.ref a1), .val (.ref a2), .val (.int (-1 : Int32)), .val (.ref w3), .val (.int (2147483647 : Int32)), .val (.int (0 : Int32)), .val (.int (0 : Int32))] [(.int (2147483647 : Int32)), (.ref a1)])) _
    refine st14 _ ?_
    show Steps p.tables e below (T14.setTop (mkF m 25 #[.val (.ref a1), .val (.ref a2), .val (.int (-1 : Int32)), .val (.ref w3), .val (.int (2147483647 : Int32)), .val (.int (0 : Int32)), .val (.int (0 : Int32))] [])) _
    refine XS.aloadN X14.here hx rfl (hb hby d1_25) rfl rfl ?_
    refine XS.iload X14.here hx rfl (hb hby d1_26) rfl ?_
    show Steps p.tables e below (T14.setTop (mkF m 28 #[.val (.ref a1), .val (.ref a2), .val (.int (-1 : Int32)), .val (.ref w3), .val (.int (2147483647 : Int32)), .val (.int (0 : Int32)), .val (.int (0 : Int32))] [(.int (0 : Int32)), (.ref a1)])) _
    refine st17 _ ?_
    show Steps p.tables e below (T17.setTop (mkF m 31 #[.val (.ref a1), .val (.ref a2), .val (.int (-1 : Int32)), .val (.ref w3), .val (.int (2147483647 : Int32)), .val (.int (0 : Int32)), .val (.int (0 : Int32))] [])) _
    refine XS.aloadN X17.here hx rfl (hb hby d1_31) rfl rfl ?_
    refine XS.iload X17.here hx rfl (hb hby d1_32) rfl ?_
    show Steps p.tables e below (T17.setTop (mkF m 34 #[.val (.ref a1), .val (.ref a2), .val (.int (-1 : Int32)), .val (.ref w3), .val (.int (2147483647 : Int32)), .val (.int (0 : Int32)), .val (.int (0 : Int32))] [(.int (0 : Int32)), (.ref a1)])) _
    refine st20 _ ?_
    show Steps p.tables e below (T20.setTop (mkF m 37 #[.val (.ref a1), .val (.ref a2), .val (.int (-1 : Int32)), .val (.ref w3), .val (.int (2147483647 : Int32)), .val (.int (0 : Int32)), .val (.int (0 : Int32))] [])) _
    exact X20.returnOut hx Bd.returns (hb hby d1_37) hr
  · show Q_rm1_0 Z a1 a2 w3 h0 n0 _ T20.heap _
    rw [e20]
    exact ⟨rfl, N20, KK20, fc21, fc22, fc23, fc24, fc25, Fw20⟩
theorem pd_1 : parseMethodDescriptor "(Ljava/lang/String;ILcom/example/rowforge/rowforge/SqlType;IIZ)V" = some ⟨[(.object "java/lang/String"), .int, (.object "com/example/rowforge/rowforge/SqlType"), .int, .int, .boolean], none⟩ := by decide +kernel
theorem d4_0 : decode prog_10_method_1_code 0 = .ok (.aload_n 0, 1) := by decide +kernel
theorem d4_1 : decode prog_10_method_1_code 1 = .ok (.invokespecial 1, 3) := by decide +kernel
theorem d4_4 : decode prog_10_method_1_code 4 = .ok (.aload_n 0, 1) := by decide +kernel
theorem d4_5 : decode prog_10_method_1_code 5 = .ok (.aload_n 1, 1) := by decide +kernel
theorem d4_6 : decode prog_10_method_1_code 6 = .ok (.putfield 7, 3) := by decide +kernel
theorem d4_9 : decode prog_10_method_1_code 9 = .ok (.aload_n 0, 1) := by decide +kernel
theorem d4_10 : decode prog_10_method_1_code 10 = .ok (.aload_n 2, 1) := by decide +kernel
theorem d4_11 : decode prog_10_method_1_code 11 = .ok (.putfield 13, 3) := by decide +kernel
theorem d4_14 : decode prog_10_method_1_code 14 = .ok (.return_, 1) := by decide +kernel
theorem ef_4_2 (m : MethodId) (x0 : Addr) (x2 : Addr) : entryFrame m #[(.ref x0), .null, (.ref x2)] 3 = mkF m 0 #[.val (.ref x0), .val .null, .val (.ref x2)] [] := by first | (simp [entryFrame, mkF, argsToLocals, Value.category]; done) | rfl
theorem pn_2 : plainName "com/example/rowforge/rowforge/Field$Constant" = true := by first | (simp [plainName, overriddenIn]; done) | decide +kernel
def Q_rm4_0 (Z : State) (a1 : Addr) (a2 : Addr) (h0 : Heap) (n0 : Nat) (v : Option Value) (h : Heap) (L : List Loc) : Prop := v = none ∧ Fr n0 L ∧ Keep h0 h [a1] ∧ Fld Z h a1 "com/example/rowforge/rowforge/Field$Constant" "value" "Ljava/lang/Object;" .null ∧ Fld Z h a1 "com/example/rowforge/rowforge/Field$Constant" "column" "Lcom/example/rowforge/rowforge/Column;" (.ref a2)
set_option maxRecDepth 65536 in
set_option maxHeartbeats 40000000 in
theorem rm4_0 (l : Launch) (Z : State) (a0 : Array Value) (hw : ∀ d ∈ tables_1, d.before a0 Z = true) (ws : List Jvm.Cond) (a1 : Addr) (a2 : Addr) (h0 : Heap) (n0 : Nat) (OL0 : Old Z n0 h0) (pr1 : Exa Z h0 a1 "com/example/rowforge/rowforge/Field$Constant") (pr2 : Fld Z h0 a1 "com/example/rowforge/rowforge/Field$Constant" "value" "Ljava/lang/Object;" .null) (pr3 : n0 ≤ a1) (pr4 : Fld Z h0 a1 "com/example/rowforge/rowforge/Field$Constant" "column" "Lcom/example/rowforge/rowforge/Column;" .null) :
    MetFree l (⟨"com/example/rowforge/rowforge/Field$Constant", "<init>", "(Ljava/lang/Object;Lcom/example/rowforge/rowforge/Column;)V"⟩ : MethodName) (head1 (Jvm.Cond.code (⟨"com/example/rowforge/rowforge/Field$Constant", "<init>", "(Ljava/lang/Object;Lcom/example/rowforge/rowforge/Column;)V"⟩ : MethodName) prog_10_method_1_code 3 none :: ws) ({ frames := 2, cells := 0, slots := 0, locals := 24 } : Room)) (fun a U => a = #[(.ref a1), .null, (.ref a2)] ∧ Z.Warmed39 U.vm ∧ U.heap = h0) (fun _ _ _ _ _ => True) (fun _ U o U' => ∃ v L, o = .returned v ∧ Q_rm4_0 Z a1 a2 h0 n0 v U'.heap L ∧ FrameEnd U o U' L ({ frames := 2, cells := 0, slots := 0, locals := 24 } : Room).cells ({ frames := 2, cells := 0, slots := 0, locals := 24 } : Room).slots) := by
  refine MetFree.of_bodySF (plainFor_of_name pn_2) hisR ?_
  intro p e s m args below meth c s₁ Bd hml0 hP hK
  obtain ⟨rfl, hZ, hh⟩ := hP
  have hx := Bd.exec
  have hby := Bd.bytes
  have hml : c.maxLocals = 3 := hml0
  have hown : s.vm.findClass "com/example/rowforge/rowforge/Field$Constant" = some m.cls := findClass_of_methodNamed Bd.named
  have hnm := (name_of_methodNamed Bd.named Bd.method).1
  have X0 : Stand p l e ({ frames := 2, cells := 0, slots := 0, locals := 24 } : Room) s m #[(.ref a1), .null, (.ref a2)] below meth c s₁ [] 0 0 := Stand.of_body Bd
  have e0 : s₁.heap = h0 := by rw [← hh, Bd.state]; rfl
  have N0 := Fr.nil n0
  have pre0 : ∀ t, Steps p.tables e below (s₁.setTop (mkF m 0 #[.val (.ref a1), .val .null, .val (.ref a2)] [])) t → Steps p.tables e below (s₁.setTop (entryFrame m #[(.ref a1), .null, (.ref a2)] 3)) t := fun t k => castTop (ef_4_2 m a1 a2) k
  obtain ⟨_, _, ⟨T3, L3, k3, n3⟩, -, X3, ⟨Lc3, hQ3, l3, y3, z3⟩, st3⟩ := X0.specialBack hx (y := (⟨"java/lang/Record", "<init>", "()V"⟩ : MethodName)) rfl hown (mvT hZ (wd44 hw)) (mvT hZ (wd19 hw)) (mvT hZ (wd22 hw)) (by decide) (backOf (W := 0) (rm2_0 l Z a0 hw [] a1 h0 n0 OL0 ) hZ (wd22 hw) (wd21 hw) (by decide) (by decide)) (g := (mkF m 1 #[.val (.ref a1), .val .null, .val (.ref a2)] [(.ref a1)])) rfl (by rw [hml]; rfl) (Steps.refl _) (a := a1) (argsL := []) (rest := []) (lenOf pd_0 rfl) rfl (by show 2 * 0 + _ ≤ _; exact Nat.le_of_eq rfl) (hb hby d4_1) (fun _ _ => ⟨rfl, e0, (by decide : 0 + 0 ≤ _), (by decide : 0 + 0 ≤ _)⟩)
  dsimp only [Pt.U, Pt.locs, Pt.cells, Pt.slots] at X3 l3 y3 z3 st3 hQ3
  subst l3 y3 z3
  obtain ⟨rfl, Nq3, ec3⟩ := hQ3
  have N3 := Fr.app N0 Nq3
  obtain ⟨T4, h4, X4, e4, W4, st4⟩ := putF X3 hx hZ hown (host := "") (Or.inl (wd45 hw)) Via.refl ec3 pr2 pr1 (Or.inr ⟨(wd46 hw), rfl, hnm⟩) (wd39 hw) (ty := (.object "java/lang/Object")) (by decide) rfl rfl (g := (mkF m 6 #[.val (.ref a1), .val .null, .val (.ref a2)] [.null, (.ref a1)])) rfl rfl (hb hby d4_6)
  have Fw4 := pr2.same W4
  have KK4 : Keep h0 h4 [a1] := (Keep.refl h0 [a1]).wr W4 (Or.inl (List.mem_of_getElem? (i := 0) rfl))
  have OL4 := OL0.wr W4 pr3
  have N4 := Fr.snoc X4 N3 pr3
  have fc5 := (pr1.wr W4)
  have fc6 := (pr4.other W4 (Or.inr (slot_ne (Or.inr (wd48 hw)) (Or.inr (wd46 hw)) (by decide) (t := (.object "com/example/rowforge/rowforge/Column")) (t' := (.object "java/lang/Object")) (by decide) (by decide))))
  obtain ⟨T7, h7, X7, e7, W7, st7⟩ := putF X4 hx hZ hown (host := "") (Or.inl (wd47 hw)) Via.refl e4 fc6 fc5 (Or.inr ⟨(wd48 hw), rfl, hnm⟩) (wd39 hw) (ty := (.object "com/example/rowforge/rowforge/Column")) (by decide) rfl rfl (g := (mkF m 11 #[.val (.ref a1), .val .null, .val (.ref a2)] [(.ref a2), (.ref a1)])) rfl rfl (hb hby d4_11)
  have Fw7 := fc6.same W7
  have KK7 : Keep h0 h7 [a1] := KK4.wr W7 (Or.inl (List.mem_of_getElem? (i := 0) rfl))
  have OL7 := OL4.wr W7 pr3
  have N7 := Fr.snoc X7 N4 pr3
  have fc8 := (Fw4.other W7 (Or.inr (slot_ne (Or.inr (wd46 hw)) (Or.inr (wd48 hw)) (by decide) (t := (.object "java/lang/Object")) (t' := (.object "com/example/rowforge/rowforge/Column")) (by decide) (by decide))))
  obtain ⟨fs, hr, hrun, hended, hW, hsame⟩ := X7.leave (v := none) (fun _ => rfl)
  refine ⟨_, _, pre0 _ ?_, hrun, hended, _, _, rfl, ?_, ⟨_, rfl⟩, hW, hsame.mono (by decide) (by decide)⟩
  · show Steps p.tables e below (s₁.setTop (mkF m 0 #[.val (.ref a1), .val .null, .val (.ref a2)] [])) _
    refine XS.aloadN X0.here hx rfl (hb hby d4_0) rfl rfl ?_
    show Steps p.tables e below (s₁.setTop (mkF m 1 #[.val (.ref a1), .val .null, .val (.ref a2)] [(.ref a1)])) _
    refine st3.trans ?_
    show Steps p.tables e below (T3.setTop (mkF m 4 #[.val (.ref a1), .val .null, .val (.ref a2)] [])) _
    refine XS.aloadN X3.here hx rfl (hb hby d4_4) rfl rfl ?_
    refine XS.aloadN X3.here hx rfl (hb hby d4_5) rfl rfl ?_
    show Steps p.tables e below (T3.setTop (mkF m 6 #[.val (.ref a1), .val .null, .val (.ref a2)] [.null, (.ref a1)])) _
    refine st4 _ ?_
    show Steps p.tables e below (T4.setTop (mkF m 9 #[.val (.ref a1), .val .null, .val (.ref a2)] [])) _
    refine XS.aloadN X4.here hx rfl (hb hby d4_9) rfl rfl ?_
    refine XS.aloadN X4.here hx rfl (hb hby d4_10) rfl rfl ?_
    show Steps p.tables e below (T4.setTop (mkF m 11 #[.val (.ref a1), .val .null, .val (.ref a2)] [(.ref a2), (.ref a1)])) _
    refine st7 _ ?_
    show Steps p.tables e below (T7.setTop (mkF m 14 #[.val (.ref a1), .val .null, .val (.ref a2)] [])) _
    exact X7.returnOut hx Bd.returns (hb hby d4_14) hr
  · show Q_rm4_0 Z a1 a2 h0 n0 _ T7.heap _
    rw [e7]
    exact ⟨rfl, N7, KK7, fc8, Fw7⟩
theorem pd_2 : parseMethodDescriptor "(Ljava/lang/Object;Lcom/example/rowforge/rowforge/Column;)V" = some ⟨[(.object "java/lang/Object"), (.object "com/example/rowforge/rowforge/Column")], none⟩ := by decide +kernel
theorem d5_0 : decode jdk_38_method_2_code 0 = .ok (.aload_n 0, 1) := by decide +kernel
theorem d5_1 : decode jdk_38_method_2_code 1 = .ok (.invokespecial 1, 3) := by decide +kernel
theorem d6_0 : decode jdk_39_method_1_code 0 = .ok (.aload_n 0, 1) := by decide +kernel
theorem d6_1 : decode jdk_39_method_1_code 1 = .ok (.invokespecial 1, 3) := by decide +kernel
theorem d7_0 : decode jdk_22_method_1_code 0 = .ok (.aload_n 0, 1) := by decide +kernel
theorem d7_1 : decode jdk_22_method_1_code 1 = .ok (.invokespecial 1, 3) := by decide +kernel
theorem d7_4 : decode jdk_22_method_1_code 4 = .ok (.return_, 1) := by decide +kernel
theorem ef_7_3 (m : MethodId) (x0 : Addr) : entryFrame m #[(.ref x0)] 1 = mkF m 0 #[.val (.ref x0)] [] := by first | (simp [entryFrame, mkF, argsToLocals, Value.category]; done) | rfl
theorem pn_3 : plainName "java/util/AbstractCollection" = true := by first | (simp [plainName, overriddenIn]; done) | decide +kernel
def Q_rm7_0 (Z : State) (a1 : Addr) (h0 : Heap) (n0 : Nat) (v : Option Value) (h : Heap) (L : List Loc) : Prop := v = none ∧ Fr n0 L ∧ h = h0
set_option maxRecDepth 65536 in
set_option maxHeartbeats 40000000 in
theorem rm7_0 (l : Launch) (Z : State) (a0 : Array Value) (hw : ∀ d ∈ tables_1, d.before a0 Z = true) (ws : List Jvm.Cond) (a1 : Addr) (h0 : Heap) (n0 : Nat) (OL0 : Old Z n0 h0)  :
    MetFree l (⟨"java/util/AbstractCollection", "<init>", "()V"⟩ : MethodName) (head1 (Jvm.Cond.code (⟨"java/util/AbstractCollection", "<init>", "()V"⟩ : MethodName) jdk_22_method_1_code 1 none :: ws) ({ frames := 1, cells := 0, slots := 0, locals := 12 } : Room)) (fun a U => a = #[(.ref a1)] ∧ Z.Warmed39 U.vm ∧ U.heap = h0) (fun _ _ _ _ _ => True) (fun _ U o U' => ∃ v L, o = .returned v ∧ Q_rm7_0 Z a1 h0 n0 v U'.heap L ∧ FrameEnd U o U' L ({ frames := 1, cells := 0, slots := 0, locals := 12 } : Room).cells ({ frames := 1, cells := 0, slots := 0, locals := 12 } : Room).slots) := by
  refine MetFree.of_bodySF (plainFor_of_name pn_3) hisR ?_
  intro p e s m args below meth c s₁ Bd hml0 hP hK
  obtain ⟨rfl, hZ, hh⟩ := hP
  have hx := Bd.exec
  have hby := Bd.bytes
  have hml : c.maxLocals = 1 := hml0
  have hown : s.vm.findClass "java/util/AbstractCollection" = some m.cls := findClass_of_methodNamed Bd.named
  have hnm := (name_of_methodNamed Bd.named Bd.method).1
  have X0 : Stand p l e ({ frames := 1, cells := 0, slots := 0, locals := 12 } : Room) s m #[(.ref a1)] below meth c s₁ [] 0 0 := Stand.of_body Bd
  have e0 : s₁.heap = h0 := by rw [← hh, Bd.state]; rfl
  have N0 := Fr.nil n0
  have pre0 : ∀ t, Steps p.tables e below (s₁.setTop (mkF m 0 #[.val (.ref a1)] [])) t → Steps p.tables e below (s₁.setTop (entryFrame m #[(.ref a1)] 1)) t := fun t k => castTop (ef_7_3 m a1) k
  obtain ⟨T2, X2, e2, st2⟩ := initO X0 hx hZ hown (wd67 hw) (wd24 hw) (wd25 hw) e0 (g := (mkF m 1 #[.val (.ref a1)] [(.ref a1)])) rfl (by rw [hml]; rfl) rfl (hb hby d7_1) (by decide) (W := 0) (by show 2 * 0 + _ ≤ _; exact Nat.le_of_eq rfl) (by decide)
  obtain ⟨fs, hr, hrun, hended, hW, hsame⟩ := X2.leave (v := none) (fun _ => rfl)
  refine ⟨_, _, pre0 _ ?_, hrun, hended, _, _, rfl, ?_, ⟨_, rfl⟩, hW, hsame.mono (by decide) (by decide)⟩
  · show Steps p.tables e below (s₁.setTop (mkF m 0 #[.val (.ref a1)] [])) _
    refine XS.aloadN X0.here hx rfl (hb hby d7_0) rfl rfl ?_
    show Steps p.tables e below (s₁.setTop (mkF m 1 #[.val (.ref a1)] [(.ref a1)])) _
    refine st2 _ ?_
    show Steps p.tables e below (T2.setTop (mkF m 4 #[.val (.ref a1)] [])) _
    exact X2.returnOut hx Bd.returns (hb hby d7_4) hr
  · show Q_rm7_0 Z a1 h0 n0 _ T2.heap _
    rw [e2]
    exact ⟨rfl, N0, rfl⟩
theorem d6_4 : decode jdk_39_method_1_code 4 = .ok (.aload_n 0, 1) := by decide +kernel
theorem d6_5 : decode jdk_39_method_1_code 5 = .ok (.iconst 0, 1) := by decide +kernel
theorem d6_6 : decode jdk_39_method_1_code 6 = .ok (.putfield 7, 3) := by decide +kernel
theorem d6_9 : decode jdk_39_method_1_code 9 = .ok (.return_, 1) := by decide +kernel
theorem ef_6_4 (m : MethodId) (x0 : Addr) : entryFrame m #[(.ref x0)] 1 = mkF m 0 #[.val (.ref x0)] [] := by first | (simp [entryFrame, mkF, argsToLocals, Value.category]; done) | rfl
theorem pn_4 : plainName "java/util/AbstractList" = true := by first | (simp [plainName, overriddenIn]; done) | decide +kernel
def Q_rm6_0 (Z : State) (a1 : Addr) (h0 : Heap) (n0 : Nat) (v : Option Value) (h : Heap) (L : List Loc) : Prop := v = none ∧ Fr n0 L ∧ Keep h0 h [a1] ∧ Fld Z h a1 "java/util/AbstractList" "modCount" "I" (.int (0 : Int32)) ∧ Fld Z h a1 "java/util/ArrayList" "elementData" "[Ljava/lang/Object;" .null
set_option maxRecDepth 65536 in
set_option maxHeartbeats 40000000 in
theorem rm6_0 (l : Launch) (Z : State) (a0 : Array Value) (hw : ∀ d ∈ tables_1, d.before a0 Z = true) (ws : List Jvm.Cond) (a1 : Addr) (h0 : Heap) (n0 : Nat) (OL0 : Old Z n0 h0) (pr1 : Exa Z h0 a1 "java/util/ArrayList") (pr2 : Fld Z h0 a1 "java/util/AbstractList" "modCount" "I" (.int (0 : Int32))) (pr3 : n0 ≤ a1) (pr4 : Fld Z h0 a1 "java/util/ArrayList" "elementData" "[Ljava/lang/Object;" .null) :
    MetFree l (⟨"java/util/AbstractList", "<init>", "()V"⟩ : MethodName) (head1 (Jvm.Cond.code (⟨"java/util/AbstractList", "<init>", "()V"⟩ : MethodName) jdk_39_method_1_code 1 none :: ws) ({ frames := 2, cells := 0, slots := 0, locals := 24 } : Room)) (fun a U => a = #[(.ref a1)] ∧ Z.Warmed39 U.vm ∧ U.heap = h0) (fun _ _ _ _ _ => True) (fun _ U o U' => ∃ v L, o = .returned v ∧ Q_rm6_0 Z a1 h0 n0 v U'.heap L ∧ FrameEnd U o U' L ({ frames := 2, cells := 0, slots := 0, locals := 24 } : Room).cells ({ frames := 2, cells := 0, slots := 0, locals := 24 } : Room).slots) := by
  refine MetFree.of_bodySF (plainFor_of_name pn_4) hisR ?_
  intro p e s m args below meth c s₁ Bd hml0 hP hK
  obtain ⟨rfl, hZ, hh⟩ := hP
  have hx := Bd.exec
  have hby := Bd.bytes
  have hml : c.maxLocals = 1 := hml0
  have hown : s.vm.findClass "java/util/AbstractList" = some m.cls := findClass_of_methodNamed Bd.named
  have hnm := (name_of_methodNamed Bd.named Bd.method).1
  have X0 : Stand p l e ({ frames := 2, cells := 0, slots := 0, locals := 24 } : Room) s m #[(.ref a1)] below meth c s₁ [] 0 0 := Stand.of_body Bd
  have e0 : s₁.heap = h0 := by rw [← hh, Bd.state]; rfl
  have N0 := Fr.nil n0
  have pre0 : ∀ t, Steps p.tables e below (s₁.setTop (mkF m 0 #[.val (.ref a1)] [])) t → Steps p.tables e below (s₁.setTop (entryFrame m #[(.ref a1)] 1)) t := fun t k => castTop (ef_6_4 m a1) k
  obtain ⟨_, _, ⟨T2, L2, k2, n2⟩, -, X2, ⟨Lc2, hQ2, l2, y2, z2⟩, st2⟩ := X0.specialBack hx (y := (⟨"java/util/AbstractCollection", "<init>", "()V"⟩ : MethodName)) rfl hown (mvT hZ (wd61 hw)) (mvT hZ (wd62 hw)) (mvT hZ (wd66 hw)) (by decide) (backOf (W := 0) (rm7_0 l Z a0 hw [] a1 h0 n0 OL0 ) hZ (wd66 hw) (wd65 hw) (by decide) (by decide)) (g := (mkF m 1 #[.val (.ref a1)] [(.ref a1)])) rfl (by rw [hml]; rfl) (Steps.refl _) (a := a1) (argsL := []) (rest := []) (lenOf pd_0 rfl) rfl (by show 2 * 0 + _ ≤ _; exact Nat.le_of_eq rfl) (hb hby d6_1) (fun _ _ => ⟨rfl, e0, (by decide : 0 + 0 ≤ _), (by decide : 0 + 0 ≤ _)⟩)
  dsimp only [Pt.U, Pt.locs, Pt.cells, Pt.slots] at X2 l2 y2 z2 st2 hQ2
  subst l2 y2 z2
  obtain ⟨rfl, Nq2, ec2⟩ := hQ2
  have N2 := Fr.app N0 Nq2
  obtain ⟨T3, h3, X3, e3, W3, st3⟩ := putF X2 hx hZ hown (host := "") (Or.inl (wd68 hw)) Via.refl ec2 pr2 pr1 (Or.inl (wd69 hw)) (wd50 hw) (ty := .int) (by decide) rfl rfl (g := (mkF m 6 #[.val (.ref a1)] [(.int (0 : Int32)), (.ref a1)])) rfl rfl (hb hby d6_6)
  have Fw3 := pr2.same W3
  have KK3 : Keep h0 h3 [a1] := (Keep.refl h0 [a1]).wr W3 (Or.inl (List.mem_of_getElem? (i := 0) rfl))
  have OL3 := OL0.wr W3 pr3
  have N3 := Fr.snoc X3 N2 pr3
  have fc4 := (pr4.other W3 (Or.inr (slot_ne (Or.inl (wd72 hw)) (Or.inl (wd69 hw)) (by decide) (t := (.array (.object "java/lang/Object"))) (t' := .int) (by decide) (by decide))))
  obtain ⟨fs, hr, hrun, hended, hW, hsame⟩ := X3.leave (v := none) (fun _ => rfl)
  refine ⟨_, _, pre0 _ ?_, hrun, hended, _, _, rfl, ?_, ⟨_, rfl⟩, hW, hsame.mono (by decide) (by decide)⟩
  · show Steps p.tables e below (s₁.setTop (mkF m 0 #[.val (.ref a1)] [])) _
    refine XS.aloadN X0.here hx rfl (hb hby d6_0) rfl rfl ?_
    show Steps p.tables e below (s₁.setTop (mkF m 1 #[.val (.ref a1)] [(.ref a1)])) _
    refine st2.trans ?_
    show Steps p.tables e below (T2.setTop (mkF m 4 #[.val (.ref a1)] [])) _
    refine XS.aloadN X2.here hx rfl (hb hby d6_4) rfl rfl ?_
    refine XS.iconst X2.here hx rfl (hb hby d6_5) ?_
    show Steps p.tables e below (T2.setTop (mkF m 6 #[.val (.ref a1)] [(.int (0 : Int32)), (.ref a1)])) _
    refine st3 _ ?_
    show Steps p.tables e below (T3.setTop (mkF m 9 #[.val (.ref a1)] [])) _
    exact X3.returnOut hx Bd.returns (hb hby d6_9) hr
  · show Q_rm6_0 Z a1 h0 n0 _ T3.heap _
    rw [e3]
    exact ⟨rfl, N3, KK3, Fw3, fc4⟩
theorem d5_4 : decode jdk_38_method_2_code 4 = .ok (.aload_n 0, 1) := by decide +kernel
theorem d5_5 : decode jdk_38_method_2_code 5 = .ok (.getstatic 39, 3) := by decide +kernel
theorem d5_8 : decode jdk_38_method_2_code 8 = .ok (.putfield 9, 3) := by decide +kernel
theorem d5_11 : decode jdk_38_method_2_code 11 = .ok (.return_, 1) := by decide +kernel
theorem ef_5_5 (m : MethodId) (x0 : Addr) : entryFrame m #[(.ref x0)] 1 = mkF m 0 #[.val (.ref x0)] [] := by first | (simp [entryFrame, mkF, argsToLocals, Value.category]; done) | rfl
theorem pn_5 : plainName "java/util/ArrayList" = true := by first | (simp [plainName, overriddenIn]; done) | decide +kernel
def Q_rm5_0 (Z : State) (a1 : Addr) (w3 : Addr) (h0 : Heap) (n0 : Nat) (v : Option Value) (h : Heap) (L : List Loc) : Prop := v = none ∧ Fr n0 L ∧ Keep h0 h [a1] ∧ Fld Z h a1 "java/util/AbstractList" "modCount" "I" (.int (0 : Int32)) ∧ Fld Z h a1 "java/util/ArrayList" "elementData" "[Ljava/lang/Object;" (.ref w3)
set_option maxRecDepth 65536 in
set_option maxHeartbeats 40000000 in
theorem rm5_0 (l : Launch) (Z : State) (a0 : Array Value) (hw : ∀ d ∈ tables_1, d.before a0 Z = true) (ws : List Jvm.Cond) (a1 : Addr) (w3 : Addr) (h0 : Heap) (n0 : Nat) (OL0 : Old Z n0 h0) (pr1 : Exa Z h0 a1 "java/util/ArrayList") (pr2 : Fld Z h0 a1 "java/util/AbstractList" "modCount" "I" (.int (0 : Int32))) (pr3 : n0 ≤ a1) (pr4 : Fld Z h0 a1 "java/util/ArrayList" "elementData" "[Ljava/lang/Object;" .null) (pr5 : Sta Z Z.heap "java/util/ArrayList" "DEFAULTCAPACITY_EMPTY_ELEMENTDATA" "[Ljava/lang/Object;" (.ref w3)) :
    MetFree l (⟨"java/util/ArrayList", "<init>", "()V"⟩ : MethodName) (head1 (Jvm.Cond.code (⟨"java/util/ArrayList", "<init>", "()V"⟩ : MethodName) jdk_38_method_2_code 1 none :: ws) ({ frames := 3, cells := 0, slots := 0, locals := 36 } : Room)) (fun a U => a = #[(.ref a1)] ∧ Z.Warmed39 U.vm ∧ U.heap = h0) (fun _ _ _ _ _ => True) (fun _ U o U' => ∃ v L, o = .returned v ∧ Q_rm5_0 Z a1 w3 h0 n0 v U'.heap L ∧ FrameEnd U o U' L ({ frames := 3, cells := 0, slots := 0, locals := 36 } : Room).cells ({ frames := 3, cells := 0, slots := 0, locals := 36 } : Room).slots) := by
  refine MetFree.of_bodySF (plainFor_of_name pn_5) hisR ?_
  intro p e s m args below meth c s₁ Bd hml0 hP hK
  obtain ⟨rfl, hZ, hh⟩ := hP
  have hx := Bd.exec
  have hby := Bd.bytes
  have hml : c.maxLocals = 1 := hml0
  have hown : s.vm.findClass "java/util/ArrayList" = some m.cls := findClass_of_methodNamed Bd.named
  have hnm := (name_of_methodNamed Bd.named Bd.method).1
  have X0 : Stand p l e ({ frames := 3, cells := 0, slots := 0, locals := 36 } : Room) s m #[(.ref a1)] below meth c s₁ [] 0 0 := Stand.of_body Bd
  have e0 : s₁.heap = h0 := by rw [← hh, Bd.state]; rfl
  have N0 := Fr.nil n0
  have pre0 : ∀ t, Steps p.tables e below (s₁.setTop (mkF m 0 #[.val (.ref a1)] [])) t → Steps p.tables e below (s₁.setTop (entryFrame m #[(.ref a1)] 1)) t := fun t k => castTop (ef_5_5 m a1) k
  obtain ⟨_, _, ⟨T2, L2, k2, n2⟩, -, X2, ⟨Lc2, hQ2, l2, y2, z2⟩, st2⟩ := X0.specialBack hx (y := (⟨"java/util/AbstractList", "<init>", "()V"⟩ : MethodName)) rfl hown (mvT hZ (wd55 hw)) (mvT hZ (wd56 hw)) (mvT hZ (wd60 hw)) (by decide) (backOf (W := 0) (rm6_0 l Z a0 hw [] a1 h0 n0 OL0 pr1 pr2 pr3 pr4) hZ (wd60 hw) (wd59 hw) (by decide) (by decide)) (g := (mkF m 1 #[.val (.ref a1)] [(.ref a1)])) rfl (by rw [hml]; rfl) (Steps.refl _) (a := a1) (argsL := []) (rest := []) (lenOf pd_0 rfl) rfl (by show 2 * 0 + _ ≤ _; exact Nat.le_of_eq rfl) (hb hby d5_1) (fun _ _ => ⟨rfl, e0, (by decide : 0 + 0 ≤ _), (by decide : 0 + 0 ≤ _)⟩)
  dsimp only [Pt.U, Pt.locs, Pt.cells, Pt.slots] at X2 l2 y2 z2 st2 hQ2
  subst l2 y2 z2
  obtain ⟨rfl, Nq2, K2, u2_0, u2_1⟩ := hQ2
  have KK2 : Keep h0 T2.heap [a1] := (Keep.refl h0 [a1]).trans K2 (allS (Or.inl (List.mem_of_getElem? (i := 0) rfl)) all0)
  have OL2 := OL0.keep K2 (allS pr3 all0)
  have N2 := Fr.app N0 Nq2
  obtain ⟨T4, X4, e4, st4⟩ := getS2 X2 hx hZ hown (host := "") (Or.inl (wd70 hw)) Via.refl rfl (pr5.ext OL2.2) (g := (mkF m 5 #[.val (.ref a1)] [(.ref a1)])) rfl (hb hby d5_5)
  have fc5 := (pr1.keep K2)
  obtain ⟨T6, h6, X6, e6, W6, st6⟩ := putF X4 hx hZ hown (host := "") (Or.inl (wd71 hw)) Via.refl e4 u2_1 fc5 (Or.inl (wd72 hw)) (wd50 hw) (ty := (.array (.object "java/lang/Object"))) (by decide) rfl rfl (g := (mkF m 8 #[.val (.ref a1)] [(.ref w3), (.ref a1)])) rfl rfl (hb hby d5_8)
  have Fw6 := u2_1.same W6
  have KK6 : Keep h0 h6 [a1] := KK2.wr W6 (Or.inl (List.mem_of_getElem? (i := 0) rfl))
  have OL6 := OL2.wr W6 pr3
  have N6 := Fr.snoc X6 N2 pr3
  have fc7 := (u2_0.other W6 (Or.inr (slot_ne (Or.inl (wd69 hw)) (Or.inl (wd72 hw)) (by decide) (t := .int) (t' := (.array (.object "java/lang/Object"))) (by decide) (by decide))))
  obtain ⟨fs, hr, hrun, hended, hW, hsame⟩ := X6.leave (v := none) (fun _ => rfl)
  refine ⟨_, _, pre0 _ ?_, hrun, hended, _, _, rfl, ?_, ⟨_, rfl⟩, hW, hsame.mono (by decide) (by decide)⟩
  · show Steps p.tables e below (s₁.setTop (mkF m 0 #[.val (.ref a1)] [])) _
    refine XS.aloadN X0.here hx rfl (hb hby d5_0) rfl rfl ?_
    show Steps p.tables e below (s₁.setTop (mkF m 1 #[.val (.ref a1)] [(.ref a1)])) _
    refine st2.trans ?_
    show Steps p.tables e below (T2.setTop (mkF m 4 #[.val (.ref a1)] [])) _
    refine XS.aloadN X2.here hx rfl (hb hby d5_4) rfl rfl ?_
    show Steps p.tables e below (T2.setTop (mkF m 5 #[.val (.ref a1)] [(.ref a1)])) _
    refine st4 _ ?_
    show Steps p.tables e below (T4.setTop (mkF m 8 #[.val (.ref a1)] [(.ref w3), (.ref a1)])) _
    refine st6 _ ?_
    show Steps p.tables e below (T6.setTop (mkF m 11 #[.val (.ref a1)] [])) _
    exact X6.returnOut hx Bd.returns (hb hby d5_11) hr
  · show Q_rm5_0 Z a1 w3 h0 n0 _ T6.heap _
    rw [e6]
    exact ⟨rfl, N6, KK6, fc7, Fw6⟩
theorem d8_0 : decode prog_10_method_4_code 0 = .ok (.aload_n 0, 1) := by decide +kernel
theorem d8_1 : decode prog_10_method_4_code 1 = .ok (.getfield 7, 3) := by decide +kernel
theorem d8_4 : decode prog_10_method_4_code 4 = .ok (.ifnonnull 7, 3) := by decide +kernel
theorem d8_7 : decode prog_10_method_4_code 7 = .ok (.iconst 1, 1) := by decide +kernel
theorem d8_8 : decode prog_10_method_4_code 8 = .ok (.goto 4, 3) := by decide +kernel
theorem d8_12 : decode prog_10_method_4_code 12 = .ok (.ireturn, 1) := by decide +kernel
theorem ef_8_6 (m : MethodId) (x0 : Addr) : entryFrame m #[(.ref x0)] 1 = mkF m 0 #[.val (.ref x0)] [] := by first | (simp [entryFrame, mkF, argsToLocals, Value.category]; done) | rfl
def Q_rm8_0 (Z : State) (a1 : Addr) (h0 : Heap) (n0 : Nat) (v : Option Value) (h : Heap) (L : List Loc) : Prop := v = some (.int (1 : Int32)) ∧ Fr n0 L ∧ h = h0
set_option maxRecDepth 65536 in
set_option maxHeartbeats 40000000 in
theorem rm8_0 (l : Launch) (Z : State) (a0 : Array Value) (hw : ∀ d ∈ tables_1, d.before a0 Z = true) (ws : List Jvm.Cond) (a1 : Addr) (h0 : Heap) (n0 : Nat) (OL0 : Old Z n0 h0) (pr1 : Fld Z h0 a1 "com/example/rowforge/rowforge/Field$Constant" "value" "Ljava/lang/Object;" .null) :
    MetFree l (⟨"com/example/rowforge/rowforge/Field$Constant", "nullable", "()Z"⟩ : MethodName) (head1 (Jvm.Cond.code (⟨"com/example/rowforge/rowforge/Field$Constant", "nullable", "()Z"⟩ : MethodName) prog_10_method_4_code 1 (some .boolean) :: ws) ({ frames := 0, cells := 0, slots := 0, locals := 0 } : Room)) (fun a U => a = #[(.ref a1)] ∧ Z.Warmed39 U.vm ∧ U.heap = h0) (fun _ _ _ _ _ => True) (fun _ U o U' => ∃ v L, o = .returned v ∧ Q_rm8_0 Z a1 h0 n0 v U'.heap L ∧ FrameEnd U o U' L ({ frames := 0, cells := 0, slots := 0, locals := 0 } : Room).cells ({ frames := 0, cells := 0, slots := 0, locals := 0 } : Room).slots) := by
  refine MetFree.of_bodySF (plainFor_of_name pn_2) hisR ?_
  intro p e s m args below meth c s₁ Bd hml0 hP hK
  obtain ⟨rfl, hZ, hh⟩ := hP
  have hx := Bd.exec
  have hby := Bd.bytes
  have hml : c.maxLocals = 1 := hml0
  have hown : s.vm.findClass "com/example/rowforge/rowforge/Field$Constant" = some m.cls := findClass_of_methodNamed Bd.named
  have hnm := (name_of_methodNamed Bd.named Bd.method).1
  have X0 : Stand p l e ({ frames := 0, cells := 0, slots := 0, locals := 0 } : Room) s m #[(.ref a1)] below meth c s₁ [] 0 0 := Stand.of_body Bd
  have e0 : s₁.heap = h0 := by rw [← hh, Bd.state]; rfl
  have N0 := Fr.nil n0
  have pre0 : ∀ t, Steps p.tables e below (s₁.setTop (mkF m 0 #[.val (.ref a1)] [])) t → Steps p.tables e below (s₁.setTop (entryFrame m #[(.ref a1)] 1)) t := fun t k => castTop (ef_8_6 m a1) k
  obtain ⟨T2, X2, e2, st2⟩ := getF X0 hx hZ hown (host := "") (Or.inl (wd45 hw)) Via.refl e0 pr1 (g := (mkF m 1 #[.val (.ref a1)] [(.ref a1)])) rfl rfl (hb hby d8_1)
  obtain ⟨fs, hr, hrun, hended, hW, hsame⟩ := X2.leave (v := some (.int (1 : Int32))) (fun h => by rw [Bd.returns] at h; cases h)
  refine ⟨_, _, pre0 _ ?_, hrun, hended, _, _, rfl, ?_, ⟨_, rfl⟩, hW, hsame.mono (by decide) (by decide)⟩
  · show Steps p.tables e below (s₁.setTop (mkF m 0 #[.val (.ref a1)] [])) _
    refine XS.aloadN X0.here hx rfl (hb hby d8_0) rfl rfl ?_
    show Steps p.tables e below (s₁.setTop (mkF m 1 #[.val (.ref a1)] [(.ref a1)])) _
    refine st2 _ ?_
    show Steps p.tables e below (T2.setTop (mkF m 4 #[.val (.ref a1)] [.null])) _
    refine XS.ifnonnullNo X2.here hx rfl (hb hby d8_4) rfl ?_
    show Steps p.tables e below (T2.setTop (mkF m 7 #[.val (.ref a1)] [])) _
    refine XS.iconst X2.here hx rfl (hb hby d8_7) ?_
    refine XS.goto X2.here hx rfl (pc0 := 8) (pc' := 12) rfl (hb hby d8_8) (by decide) (by decide) ?_
    show Steps p.tables e below (T2.setTop (mkF m 12 #[.val (.ref a1)] [(.int (1 : Int32))])) _
    exact retN X2 hx (t := .boolean) Bd.returns (by simp) (hb hby d8_12) hr
  · show Q_rm8_0 Z a1 h0 n0 _ T2.heap _
    rw [e2]
    exact ⟨rfl, N0, rfl⟩
theorem pd_3 : parseMethodDescriptor "()Z" = some ⟨[], some .boolean⟩ := by decide +kernel
theorem d9_0 : decode prog_10_method_5_code 0 = .ok (.aload_n 0, 1) := by decide +kernel
theorem d9_1 : decode prog_10_method_5_code 1 = .ok (.getfield 7, 3) := by decide +kernel
theorem d9_4 : decode prog_10_method_5_code 4 = .ok (.areturn, 1) := by decide +kernel
theorem ef_9_7 (m : MethodId) (x0 : Addr) (x1 : Addr) : entryFrame m #[(.ref x0), (.ref x1)] 2 = mkF m 0 #[.val (.ref x0), .val (.ref x1)] [] := by first | (simp [entryFrame, mkF, argsToLocals, Value.category]; done) | rfl
def Q_rm9_0 (Z : State) (a1 : Addr) (a2 : Addr) (h0 : Heap) (n0 : Nat) (v : Option Value) (h : Heap) (L : List Loc) : Prop := v = some .null ∧ Fr n0 L ∧ h = h0
set_option maxRecDepth 65536 in
set_option maxHeartbeats 40000000 in
theorem rm9_0 (l : Launch) (Z : State) (a0 : Array Value) (hw : ∀ d ∈ tables_1, d.before a0 Z = true) (ws : List Jvm.Cond) (a1 : Addr) (a2 : Addr) (h0 : Heap) (n0 : Nat) (OL0 : Old Z n0 h0) (pr1 : Fld Z h0 a1 "com/example/rowforge/rowforge/Field$Constant" "value" "Ljava/lang/Object;" .null) :
    MetFree l (⟨"com/example/rowforge/rowforge/Field$Constant", "value", "(Ljava/util/List;)Ljava/lang/Object;"⟩ : MethodName) (head1 (Jvm.Cond.code (⟨"com/example/rowforge/rowforge/Field$Constant", "value", "(Ljava/util/List;)Ljava/lang/Object;"⟩ : MethodName) prog_10_method_5_code 2 (some (.object "java/lang/Object")) :: ws) ({ frames := 0, cells := 0, slots := 0, locals := 0 } : Room)) (fun a U => a = #[(.ref a1), (.ref a2)] ∧ Z.Warmed39 U.vm ∧ U.heap = h0) (fun _ _ _ _ _ => True) (fun _ U o U' => ∃ v L, o = .returned v ∧ Q_rm9_0 Z a1 a2 h0 n0 v U'.heap L ∧ FrameEnd U o U' L ({ frames := 0, cells := 0, slots := 0, locals := 0 } : Room).cells ({ frames := 0, cells := 0, slots := 0, locals := 0 } : Room).slots) := by
  refine MetFree.of_bodySF (plainFor_of_name pn_2) hisR ?_
  intro p e s m args below meth c s₁ Bd hml0 hP hK
  obtain ⟨rfl, hZ, hh⟩ := hP
  have hx := Bd.exec
  have hby := Bd.bytes
  have hml : c.maxLocals = 2 := hml0
  have hown : s.vm.findClass "com/example/rowforge/rowforge/Field$Constant" = some m.cls := findClass_of_methodNamed Bd.named
  have hnm := (name_of_methodNamed Bd.named Bd.method).1
  have X0 : Stand p l e ({ frames := 0, cells := 0, slots := 0, locals := 0 } : Room) s m #[(.ref a1), (.ref a2)] below meth c s₁ [] 0 0 := Stand.of_body Bd
  have e0 : s₁.heap = h0 := by rw [← hh, Bd.state]; rfl
  have N0 := Fr.nil n0
  have pre0 : ∀ t, Steps p.tables e below (s₁.setTop (mkF m 0 #[.val (.ref a1), .val (.ref a2)] [])) t → Steps p.tables e below (s₁.setTop (entryFrame m #[(.ref a1), (.ref a2)] 2)) t := fun t k => castTop (ef_9_7 m a1 a2) k
  obtain ⟨T3, X3, e3, st3⟩ := getF X0 hx hZ hown (host := "") (Or.inl (wd45 hw)) Via.refl e0 pr1 (g := (mkF m 1 #[.val (.ref a1), .val (.ref a2)] [(.ref a1)])) rfl rfl (hb hby d9_1)
  obtain ⟨fs, hr, hrun, hended, hW, hsame⟩ := X3.leave (v := some .null) (fun h => by rw [Bd.returns] at h; cases h)
  refine ⟨_, _, pre0 _ ?_, hrun, hended, _, _, rfl, ?_, ⟨_, rfl⟩, hW, hsame.mono (by decide) (by decide)⟩
  · show Steps p.tables e below (s₁.setTop (mkF m 0 #[.val (.ref a1), .val (.ref a2)] [])) _
    refine XS.aloadN X0.here hx rfl (hb hby d9_0) rfl rfl ?_
    show Steps p.tables e below (s₁.setTop (mkF m 1 #[.val (.ref a1), .val (.ref a2)] [(.ref a1)])) _
    refine st3 _ ?_
    show Steps p.tables e below (T3.setTop (mkF m 4 #[.val (.ref a1), .val (.ref a2)] [.null])) _
    jvm_step X3.here [X3.here.top, hx, (hb hby d9_4), X3.method', Bd.returns, Value.isRef, FieldType.isReference]
    first | (intro acts; rw [hr _ acts rfl rfl rfl]) | rw [hr _ _ rfl rfl rfl]
    exact Steps.refl _
  · show Q_rm9_0 Z a1 a2 h0 n0 _ T3.heap _
    rw [e3]
    exact ⟨rfl, N0, rfl⟩
theorem pd_4 : parseMethodDescriptor "(Ljava/util/List;)Ljava/lang/Object;" = some ⟨[(.object "java/util/List")], some (.object "java/lang/Object")⟩ := by decide +kernel
theorem ef_1_8 (m : MethodId) (x0 : Addr) (x1 : Addr) (x3 : Addr) : entryFrame m #[(.ref x0), (.ref x1), (.int (-1 : Int32)), (.ref x3), (.int (2147483647 : Int32)), (.int (0 : Int32)), (.int (1 : Int32))] 7 = mkF m 0 #[.val (.ref x0), .val (.ref x1), .val (.int (-1 : Int32)), .val (.ref x3), .val (.int (2147483647 : Int32)), .val (.int (0 : Int32)), .val (.int (1 : Int32))] [] := by first | (simp [entryFrame, mkF, argsToLocals, Value.category]; done) | rfl
def Q_rm1_1 (Z : State) (a1 : Addr) (a2 : Addr) (w3 : Addr) (h0 : Heap) (n0 : Nat) (v : Option Value) (h : Heap) (L : List Loc) : Prop := v = none ∧ Fr n0 L ∧ Keep h0 h [a1] ∧ Fld Z h a1 "com/example/rowforge/rowforge/Column" "name" "Ljava/lang/String;" (.ref a2) ∧ Fld Z h a1 "com/example/rowforge/rowforge/Column" "position" "I" (.int (-1 : Int32)) ∧ Fld Z h a1 "com/example/rowforge/rowforge/Column" "type" "Lcom/example/rowforge/rowforge/SqlType;" (.ref w3) ∧ Fld Z h a1 "com/example/rowforge/rowforge/Column" "length" "I" (.int (2147483647 : Int32)) ∧ Fld Z h a1 "com/example/rowforge/rowforge/Column" "scale" "I" (.int (0 : Int32)) ∧ Fld Z h a1 "com/example/rowforge/rowforge/Column" "nullable" "Z" (.int (1 : Int32))
set_option maxRecDepth 65536 in
set_option maxHeartbeats 40000000 in
theorem rm1_1 (l : Launch) (Z : State) (a0 : Array Value) (hw : ∀ d ∈ tables_1, d.before a0 Z = true) (ws : List Jvm.Cond) (a1 : Addr) (a2 : Addr) (w3 : Addr) (h0 : Heap) (n0 : Nat) (OL0 : Old Z n0 h0) (pr1 : Exa Z h0 a1 "com/example/rowforge/rowforge/Column") (pr2 : Fld Z h0 a1 "com/example/rowforge/rowforge/Column" "name" "Ljava/lang/String;" .null) (pr3 : n0 ≤ a1) (pr4 : Fld Z h0 a1 "com/example/rowforge/rowforge/Column" "position" "I" (.int (0 : Int32))) (pr5 : Fld Z h0 a1 "com/example/rowforge/rowforge/Column" "type" "Lcom/example/rowforge/rowforge/SqlType;" .null) (pr6 : Fld Z h0 a1 "com/example/rowforge/rowforge/Column" "length" "I" (.int (0 : Int32))) (pr7 : Fld Z h0 a1 "com/example/rowforge/rowforge/Column" "scale" "I" (.int (0 : Int32))) (pr8 : Fld Z h0 a1 "com/example/rowforge/rowforge/Column" "nullable" "Z" (.int (0 : Int32))) :
    MetFree l (⟨"com/example/rowforge/rowforge/Column", "<init>", "(Ljava/lang/String;ILcom/example/rowforge/rowforge/SqlType;IIZ)V"⟩ : MethodName) (head1 (Jvm.Cond.code (⟨"com/example/rowforge/rowforge/Column", "<init>", "(Ljava/lang/String;ILcom/example/rowforge/rowforge/SqlType;IIZ)V"⟩ : MethodName) prog_2_method_1_code 7 none :: ws) ({ frames := 2, cells := 0, slots := 0, locals := 24 } : Room)) (fun a U => a = #[(.ref a1), (.ref a2), (.int (-1 : Int32)), (.ref w3), (.int (2147483647 : Int32)), (.int (0 : Int32)), (.int (1 : Int32))] ∧ Z.Warmed39 U.vm ∧ U.heap = h0) (fun _ _ _ _ _ => True) (fun _ U o U' => ∃ v L, o = .returned v ∧ Q_rm1_1 Z a1 a2 w3 h0 n0 v U'.heap L ∧ FrameEnd U o U' L ({ frames := 2, cells := 0, slots := 0, locals := 24 } : Room).cells ({ frames := 2, cells := 0, slots := 0, locals := 24 } : Room).slots) := by
  refine MetFree.of_bodySF (plainFor_of_name pn_1) hisR ?_
  intro p e s m args below meth c s₁ Bd hml0 hP hK
  obtain ⟨rfl, hZ, hh⟩ := hP
  have hx := Bd.exec
  have hby := Bd.bytes
  have hml : c.maxLocals = 7 := hml0
  have hown : s.vm.findClass "com/example/rowforge/rowforge/Column" = some m.cls := findClass_of_methodNamed Bd.named
  have hnm := (name_of_methodNamed Bd.named Bd.method).1
  have X0 : Stand p l e ({ frames := 2, cells := 0, slots := 0, locals := 24 } : Room) s m #[(.ref a1), (.ref a2), (.int (-1 : Int32)), (.ref w3), (.int (2147483647 : Int32)), (.int (0 : Int32)), (.int (1 : Int32))] below meth c s₁ [] 0 0 := Stand.of_body Bd
  have e0 : s₁.heap = h0 := by rw [← hh, Bd.state]; rfl
  have N0 := Fr.nil n0
  have pre0 : ∀ t, Steps p.tables e below (s₁.setTop (mkF m 0 #[.val (.ref a1), .val (.ref a2), .val (.int (-1 : Int32)), .val (.ref w3), .val (.int (2147483647 : Int32)), .val (.int (0 : Int32)), .val (.int (1 : Int32))] [])) t → Steps p.tables e below (s₁.setTop (entryFrame m #[(.ref a1), (.ref a2), (.int (-1 : Int32)), (.ref w3), (.int (2147483647 : Int32)), (.int (0 : Int32)), (.int (1 : Int32))] 7)) t := fun t k => castTop (ef_1_8 m a1 a2 w3) k
  obtain ⟨_, _, ⟨T4, L4, k4, n4⟩, -, X4, ⟨Lc4, hQ4, l4, y4, z4⟩, st4⟩ := X0.specialBack hx (y := (⟨"java/lang/Record", "<init>", "()V"⟩ : MethodName)) rfl hown (mvT hZ (wd18 hw)) (mvT hZ (wd19 hw)) (mvT hZ (wd22 hw)) (by decide) (backOf (W := 0) (rm2_0 l Z a0 hw [] a1 h0 n0 OL0 ) hZ (wd22 hw) (wd21 hw) (by decide) (by decide)) (g := (mkF m 1 #[.val (.ref a1), .val (.ref a2), .val (.int (-1 : Int32)), .val (.ref w3), .val (.int (2147483647 : Int32)), .val (.int (0 : Int32)), .val (.int (1 : Int32))] [(.ref a1)])) rfl (by rw [hml]; rfl) (Steps.refl _) (a := a1) (argsL := []) (rest := []) (lenOf pd_0 rfl) rfl (by show 2 * 0 + _ ≤ _; exact Nat.le_of_eq rfl) (hb hby d1_1) (fun _ _ => ⟨rfl, e0, (by decide : 0 + 0 ≤ _), (by decide : 0 + 0 ≤ _)⟩)
  dsimp only [Pt.U, Pt.locs, Pt.cells, Pt.slots] at X4 l4 y4 z4 st4 hQ4
  subst l4 y4 z4
  obtain ⟨rfl, Nq4, ec4⟩ := hQ4
  have N4 := Fr.app N0 Nq4
  obtain ⟨T5, h5, X5, e5, W5, st5⟩ := putF X4 hx hZ hown (host := "") (Or.inl (wd26 hw)) Via.refl ec4 pr2 pr1 (Or.inr ⟨(wd27 hw), rfl, hnm⟩) (wd5 hw) (ty := (.object "java/lang/String")) (by decide) rfl rfl (g := (mkF m 6 #[.val (.ref a1), .val (.ref a2), .val (.int (-1 : Int32)), .val (.ref w3), .val (.int (2147483647 : Int32)), .val (.int (0 : Int32)), .val (.int (1 : Int32))] [(.ref a2), (.ref a1)])) rfl rfl (hb hby d1_6)
  have Fw5 := pr2.same W5
  have KK5 : Keep h0 h5 [a1] := (Keep.refl h0 [a1]).wr W5 (Or.inl (List.mem_of_getElem? (i := 0) rfl))
  have OL5 := OL0.wr W5 pr3
  have N5 := Fr.snoc X5 N4 pr3
  have fc6 := (pr1.wr W5)
  have fc7 := (pr4.other W5 (Or.inr (slot_ne (Or.inr (wd29 hw)) (Or.inr (wd27 hw)) (by decide) (t := .int) (t' := (.object "java/lang/String")) (by decide) (by decide))))
  obtain ⟨T8, h8, X8, e8, W8, st8⟩ := putF X5 hx hZ hown (host := "") (Or.inl (wd28 hw)) Via.refl e5 fc7 fc6 (Or.inr ⟨(wd29 hw), rfl, hnm⟩) (wd5 hw) (ty := .int) (by decide) rfl rfl (g := (mkF m 11 #[.val (.ref a1), .val (.ref a2), .val (.int (-1 : Int32)), .val (.ref w3), .val (.int (2147483647 : Int32)), .val (.int (0 : Int32)), .val (.int (1 : Int32))] [(.int (-1 : Int32)), (.ref a1)])) rfl rfl (hb hby d1_11)
  have Fw8 := fc7.same W8
  have KK8 : Keep h0 h8 [a1] := KK5.wr W8 (Or.inl (List.mem_of_getElem? (i := 0) rfl))
  have OL8 := OL5.wr W8 pr3
  have N8 := Fr.snoc X8 N5 pr3
  have fc9 := (fc6.wr W8)
  have fc10 := ((pr5.other W5 (Or.inr (slot_ne (Or.inr (wd31 hw)) (Or.inr (wd27 hw)) (by decide) (t := (.object "com/example/rowforge/rowforge/SqlType")) (t' := (.object "java/lang/String")) (by decide) (by decide)))).other W8 (Or.inr (slot_ne (Or.inr (wd31 hw)) (Or.inr (wd29 hw)) (by decide) (t := (.object "com/example/rowforge/rowforge/SqlType")) (t' := .int) (by decide) (by decide))))
  obtain ⟨T11, h11, X11, e11, W11, st11⟩ := putF X8 hx hZ hown (host := "") (Or.inl (wd30 hw)) Via.refl e8 fc10 fc9 (Or.inr ⟨(wd31 hw), rfl, hnm⟩) (wd5 hw) (ty := (.object "com/example/rowforge/rowforge/SqlType")) (by decide) rfl rfl (g := (mkF m 16 #[.val (.ref a1), .val (.ref a2), .val (.int (-1 : Int32)), .val (.ref w3), .val (.int (2147483647 : Int32)), .val (.int (0 : Int32)), .val (.int (1 : Int32))] [(.ref w3), (.ref a1)])) rfl rfl (hb hby d1_16)
  have Fw11 := fc10.same W11
  have KK11 : Keep h0 h11 [a1] := KK8.wr W11 (Or.inl (List.mem_of_getElem? (i := 0) rfl))
  have OL11 := OL8.wr W11 pr3
  have N11 := Fr.snoc X11 N8 pr3
  have fc12 := (fc9.wr W11)
  have fc13 := (((pr6.other W5 (Or.inr (slot_ne (Or.inr (wd33 hw)) (Or.inr (wd27 hw)) (by decide) (t := .int) (t' := (.object "java/lang/String")) (by decide) (by decide)))).other W8 (Or.inr (slot_ne (Or.inr (wd33 hw)) (Or.inr (wd29 hw)) (by decide) (t := .int) (t' := .int) (by decide) (by decide)))).other W11 (Or.inr (slot_ne (Or.inr (wd33 hw)) (Or.inr (wd31 hw)) (by decide) (t := .int) (t' := (.object "com/example/rowforge/rowforge/SqlType")) (by decide) (by decide))))
  obtain ⟨T14, h14, X14, e14, W14, st14⟩ := putF X11 hx hZ hown (host := "") (Or.inl (wd32 hw)) Via.refl e11 fc13 fc12 (Or.inr ⟨(wd33 hw), rfl, hnm⟩) (wd5 hw) (ty := .int) (by decide) rfl rfl (g := (mkF m 22 #[.val (.ref a1), .val (.ref a2), .val (.int (-1 : Int32)), .val (.ref w3), .val (.int (2147483647 : Int32)), .val (.int (0 : Int32)), .val (.int (1 : Int32))] [(.int (2147483647 : Int32)), (.ref a1)])) rfl rfl (hb hby d1_22)
  have Fw14 := fc13.same W14
  have KK14 : Keep h0 h14 [a1] := KK11.wr W14 (Or.inl (List.mem_of_getElem? (i := 0) rfl))
  have OL14 := OL11.wr W14 pr3
  have N14 := Fr.snoc X14 N11 pr3
  have fc15 := (fc12.wr W14)
  have fc16 := ((((pr7.other W5 (Or.inr (slot_ne (Or.inr (wd35 hw)) (Or.inr (wd27 hw)) (by decide) (t := .int) (t' := (.object "java/lang/String")) (by decide) (by decide)))).other W8 (Or.inr (slot_ne (Or.inr (wd35 hw)) (Or.inr (wd29 hw)) (by decide) (t := .int) (t' := .int) (by decide) (by decide)))).other W11 (Or.inr (slot_ne (Or.inr (wd35 hw)) (Or.inr (wd31 hw)) (by decide) (t := .int) (t' := (.object "com/example/rowforge/rowforge/SqlType")) (by decide) (by decide)))).other W14 (Or.inr (slot_ne (Or.inr (wd35 hw)) (Or.inr (wd33 hw)) (by decide) (t := .int) (t' := .int) (by decide) (by decide))))
  obtain ⟨T17, h17, X17, e17, W17, st17⟩ := putF X14 hx hZ hown (host := "") (Or.inl (wd34 hw)) Via.refl e14 fc16 fc15 (Or.inr ⟨(wd35 hw), rfl, hnm⟩) (wd5 hw) (ty := .int) (by decide) rfl rfl (g := (mkF m 28 #[.val (.ref a1), .val (.ref a2), .val (.int (-1 : Int32)), .val (.ref w3), .val (.int (2147483647 : Int32)), .val (.int (0 : Int32)), .val (.int (1 : Int32))] [(.int (0 : Int32)), (.ref a1)])) rfl rfl (hb hby d1_28)
  have Fw17 := fc16.same W17
  have KK17 : Keep h0 h17 [a1] := KK14.wr W17 (Or.inl (List.mem_of_getElem? (i := 0) rfl))
  have OL17 := OL14.wr W17 pr3
  have N17 := Fr.snoc X17 N14 pr3
  have fc18 := (fc15.wr W17)
  have fc19 := (((((pr8.other W5 (Or.inr (slot_ne (Or.inr (wd37 hw)) (Or.inr (wd27 hw)) (by decide) (t := .boolean) (t' := (.object "java/lang/String")) (by decide) (by decide)))).other W8 (Or.inr (slot_ne (Or.inr (wd37 hw)) (Or.inr (wd29 hw)) (by decide) (t := .boolean) (t' := .int) (by decide) (by decide)))).other W11 (Or.inr (slot_ne (Or.inr (wd37 hw)) (Or.inr (wd31 hw)) (by decide) (t := .boolean) (t' := (.object "com/example/rowforge/rowforge/SqlType")) (by decide) (by decide)))).other W14 (Or.inr (slot_ne (Or.inr (wd37 hw)) (Or.inr (wd33 hw)) (by decide) (t := .boolean) (t' := .int) (by decide) (by decide)))).other W17 (Or.inr (slot_ne (Or.inr (wd37 hw)) (Or.inr (wd35 hw)) (by decide) (t := .boolean) (t' := .int) (by decide) (by decide))))
  obtain ⟨T20, h20, X20, e20, W20, st20⟩ := putFN X17 hx hZ hown (wd36 hw) Via.refl e17 fc19 fc18 (Or.inr ⟨(wd37 hw), rfl, hnm⟩) (wd5 hw) (ty := .boolean) (v' := (.int (1 : Int32))) (by decide) rfl rfl (g := (mkF m 34 #[.val (.ref a1), .val (.ref a2), .val (.int (-1 : Int32)), .val (.ref w3), .val (.int (2147483647 : Int32)), .val (.int (0 : Int32)), .val (.int (1 : Int32))] [(.int (1 : Int32)), (.ref a1)])) rfl rfl (hb hby d1_34)
  have Fw20 := fc19.same W20
  have KK20 : Keep h0 h20 [a1] := KK17.wr W20 (Or.inl (List.mem_of_getElem? (i := 0) rfl))
  have OL20 := OL17.wr W20 pr3
  have N20 := Fr.snoc X20 N17 pr3
  have fc21 := (((((Fw5.other W8 (Or.inr (slot_ne (Or.inr (wd27 hw)) (Or.inr (wd29 hw)) (by decide) (t := (.object "java/lang/String")) (t' := .int) (by decide) (by decide)))).other W11 (Or.inr (slot_ne (Or.inr (wd27 hw)) (Or.inr (wd31 hw)) (by decide) (t := (.object "java/lang/String")) (t' := (.object "com/example/rowforge/rowforge/SqlType")) (by decide) (by decide)))).other W14 (Or.inr (slot_ne (Or.inr (wd27 hw)) (Or.inr (wd33 hw)) (by decide) (t := (.object "java/lang/String")) (t' := .int) (by decide) (by decide)))).other W17 (Or.inr (slot_ne (Or.inr (wd27 hw)) (Or.inr (wd35 hw)) (by decide) (t := (.object "java/lang/String")) (t' := .int) (by decide) (by decide)))).other W20 (Or.inr (slot_ne (Or.inr (wd27 hw)) (Or.inr (wd37 hw)) (by decide) (t := (.object "java/lang/String")) (t' := .boolean) (by decide) (by decide))))
  have fc22 := ((((Fw8.other W11 (Or.inr (slot_ne (Or.inr (wd29 hw)) (Or.inr (wd31 hw)) (by decide) (t := .int) (t' := (.object "com/example/rowforge/rowforge/SqlType")) (by decide) (by decide)))).other W14 (Or.inr (slot_ne (Or.inr (wd29 hw)) (Or.inr (wd33 hw)) (by decide) (t := .int) (t' := .int) (by decide) (by decide)))).other W17 (Or.inr (slot_ne (Or.inr (wd29 hw)) (Or.inr (wd35 hw)) (by decide) (t := .int) (t' := .int) (by decide) (by decide)))).other W20 (Or.inr (slot_ne (Or.inr (wd29 hw)) (Or.inr (wd37 hw)) (by decide) (t := .int) (t' := .boolean) (by decide) (by decide))))
  have fc23 := (((Fw11.other W14 (Or.inr (slot_ne (Or.inr (wd31 hw)) (Or.inr (wd33 hw)) (by decide) (t := (.object "com/example/rowforge/rowforge/SqlType")) (t' := .int) (by decide) (by decide)))).other W17 (Or.inr (slot_ne (Or.inr (wd31 hw)) (Or.inr (wd35 hw)) (by decide) (t := (.object "com/example/rowforge/rowforge/SqlType")) (t' := .int) (by decide) (by decide)))).other W20 (Or.inr (slot_ne (Or.inr (wd31 hw)) (Or.inr (wd37 hw)) (by decide) (t := (.object "com/example/rowforge/rowforge/SqlType")) (t' := .boolean) (by decide) (by decide))))
  have fc24 := ((Fw14.other W17 (Or.inr (slot_ne (Or.inr (wd33 hw)) (Or.inr (wd35 hw)) (by decide) (t := .int) (t' := .int) (by decide) (by decide)))).other W20 (Or.inr (slot_ne (Or.inr (wd33 hw)) (Or.inr (wd37 hw)) (by decide) (t := .int) (t' := .boolean) (by decide) (by decide))))
  have fc25 := (Fw17.other W20 (Or.inr (slot_ne (Or.inr (wd35 hw)) (Or.inr (wd37 hw)) (by decide) (t := .int) (t' := .boolean) (by decide) (by decide))))
  obtain ⟨fs, hr, hrun, hended, hW, hsame⟩ := X20.leave (v := none) (fun _ => rfl)
  refine ⟨_, _, pre0 _ ?_, hrun, hended, _, _, rfl, ?_, ⟨_, rfl⟩, hW, hsame.mono (by decide) (by decide)⟩
  · show Steps p.tables e below (s₁.setTop (mkF m 0 #[.val (.ref a1), .val (.ref a2), .val (.int (-1 : Int32)), .val (.ref w3), .val (.int (2147483647 : Int32)), .val (.int (0 : Int32)), .val (.int (1 : Int32))] [])) _
    refine XS.aloadN X0.here hx rfl (hb hby d1_0) rfl rfl ?_
    show Steps p.tables e below (s₁.setTop (mkF m 1 #[.val (.ref a1), .val (.ref a2), .val (.int (-1 : Int32)), .val (.ref w3), .val (.int (2147483647 : Int32)), .val (.int (0 : Int32)), .val (.int (1 : Int32))] [(.ref a1)])) _
    refine st4.trans ?_
    show Steps p.tables e below (T4.setTop (mkF m 4 #[.val (.ref a1), .val (.ref a2), .val (.int (-1 : Int32)), .val (.ref w3), .val (.int (2147483647 : Int32)), .val (.int (0 : Int32)), .val (.int (1 : Int32))] [])) _
    refine XS.aloadN X4.here hx rfl (hb hby d1_4) rfl rfl ?_
    refine XS.aloadN X4.here hx rfl (hb hby d1_5) rfl rfl ?_
    show Steps p.tables e below (T4.setTop (mkF m 6 #[.val (.ref a1), .val (.ref a2), .val (.int (-1 : Int32)), .val (.ref w3), .val (.int (2147483647 : Int32)), .val (.int (0 : Int32)), .val (.int (1 : Int32))] [(.ref a2), (.ref a1)])) _
    refine st5 _ ?_
    show Steps p.tables e below (T5.setTop (mkF m 9 #[.val (.ref a1), .val (.ref a2), .val (.int (-1 : Int32)), .val (.ref w3), .val (.int (2147483647 : Int32)), .val (.int (0 : Int32)), .val (.int (1 : Int32))] [])) _
    refine XS.aloadN X5.here hx rfl (hb hby d1_9) rfl rfl ?_
    refine XS.iloadN X5.here hx rfl (hb hby d1_10) rfl ?_
    show Steps p.tables e below (T5.setTop (mkF m 11 #[.val (.ref a1), .val (.ref a2), .val (.int (-1 : Int32)), .val (.ref w3), .val (.int (2147483647 : Int32)), .val (.int (0 : Int32)), .val (.int (1 : Int32))] [(.int (-1 : Int32)), (.ref a1)])) _
    refine st8 _ ?_
    show Steps p.tables e below (T8.setTop (mkF m 14 #[.val (.ref a1), .val (.ref a2), .val (.int (-1 : Int32)), .val (.ref w3), .val (.int (2147483647 : Int32)), .val (.int (0 : Int32)), .val (.int (1 : Int32))] [])) _
    refine XS.aloadN X8.here hx rfl (hb hby d1_14) rfl rfl ?_
    refine XS.aloadN X8.here hx rfl (hb hby d1_15) rfl rfl ?_
    show Steps p.tables e below (T8.setTop (mkF m 16 #[.val (.ref a1), .val (.ref a2), .val (.int (-1 : Int32)), .val (.ref w3), .val (.int (2147483647 : Int32)), .val (.int (0 : Int32)), .val (.int (1 : Int32))] [(.ref w3), (.ref a1)])) _
    refine st11 _ ?_
    show Steps p.tables e below (T11.setTop (mkF m 19 #[.val (.ref a1), .val (.ref a2), .val (.int (-1 : Int32)), .val (.ref w3), .val (.int (2147483647 : Int32)), .val (.int (0 : Int32)), .val (.int (1 : Int32))] [])) _
    refine XS.aloadN X11.here hx rfl (hb hby d1_19) rfl rfl ?_
    refine XS.iload X11.here hx rfl (hb hby d1_20) rfl ?_
    show Steps p.tables e below (T11.setTop (mkF m 22 #[.val (.ref a1), .val (.ref a2), .val (.int (-1 : Int32)), .val (.ref w3), .val (.int (2147483647 : Int32)), .val (.int (0 : Int32)), .val (.int (1 : Int32))] [(.int (2147483647 : Int32)), (.ref a1)])) _
    refine st14 _ ?_
    show Steps p.tables e below (T14.setTop (mkF m 25 #[.val (.ref a1), .val (.ref a2), .val (.int (-1 : Int32)), .val (.ref w3), .val (.int (2147483647 : Int32)), .val (.int (0 : Int32)), .val (.int (1 : Int32))] [])) _
    refine XS.aloadN X14.here hx rfl (hb hby d1_25) rfl rfl ?_
    refine XS.iload X14.here hx rfl (hb hby d1_26) rfl ?_
    show Steps p.tables e below (T14.setTop (mkF m 28 #[.val (.ref a1), .val (.ref a2), .val (.int (-1 : Int32)), .val (.ref w3), .val (.int (2147483647 : Int32)), .val (.int (0 : Int32)), .val (.int (1 : Int32))] [(.int (0 : Int32)), (.ref a1)])) _
    refine st17 _ ?_
    show Steps p.tables e below (T17.setTop (mkF m 31 #[.val (.ref a1), .val (.ref a2), .val (.int (-1 : Int32)), .val (.ref w3), .val (.int (2147483647 : Int32)), .val (.int (0 : Int32)), .val (.int (1 : Int32))] [])) _
    refine XS.aloadN X17.here hx rfl (hb hby d1_31) rfl rfl ?_
    refine XS.iload X17.here hx rfl (hb hby d1_32) rfl ?_
    show Steps p.tables e below (T17.setTop (mkF m 34 #[.val (.ref a1), .val (.ref a2), .val (.int (-1 : Int32)), .val (.ref w3), .val (.int (2147483647 : Int32)), .val (.int (0 : Int32)), .val (.int (1 : Int32))] [(.int (1 : Int32)), (.ref a1)])) _
    refine st20 _ ?_
    show Steps p.tables e below (T20.setTop (mkF m 37 #[.val (.ref a1), .val (.ref a2), .val (.int (-1 : Int32)), .val (.ref w3), .val (.int (2147483647 : Int32)), .val (.int (0 : Int32)), .val (.int (1 : Int32))] [])) _
    exact X20.returnOut hx Bd.returns (hb hby d1_37) hr
  · show Q_rm1_1 Z a1 a2 w3 h0 n0 _ T20.heap _
    rw [e20]
    exact ⟨rfl, N20, KK20, fc21, fc22, fc23, fc24, fc25, Fw20⟩
theorem d14_0 : decode jdk_35_method_24_code 0 = .ok (.sipush 128, 3) := by decide +kernel
theorem d14_3 : decode jdk_35_method_24_code 3 = .ok (.istore_n 2, 1) := by decide +kernel
theorem d14_4 : decode jdk_35_method_24_code 4 = .ok (.lload_n 0, 1) := by decide +kernel
theorem d14_5 : decode jdk_35_method_24_code 5 = .ok (.ldc2_w 230, 3) := by decide +kernel
theorem d14_8 : decode jdk_35_method_24_code 8 = .ok (.lcmp, 1) := by decide +kernel
theorem d14_9 : decode jdk_35_method_24_code 9 = .ok (.ifCond .lt 22, 3) := by decide +kernel
theorem d14_31 : decode jdk_35_method_24_code 31 = .ok (.new 1, 3) := by decide +kernel
theorem d14_34 : decode jdk_35_method_24_code 34 = .ok (.dup, 1) := by decide +kernel
theorem d14_35 : decode jdk_35_method_24_code 35 = .ok (.lload_n 0, 1) := by decide +kernel
theorem d14_36 : decode jdk_35_method_24_code 36 = .ok (.invokespecial 240, 3) := by decide +kernel
theorem d15_0 : decode jdk_35_method_26_code 0 = .ok (.aload_n 0, 1) := by decide +kernel
theorem d15_1 : decode jdk_35_method_26_code 1 = .ok (.invokespecial 270, 3) := by decide +kernel
theorem d16_0 : decode jdk_18_method_1_code 0 = .ok (.aload_n 0, 1) := by decide +kernel
theorem d16_1 : decode jdk_18_method_1_code 1 = .ok (.invokespecial 1, 3) := by decide +kernel
theorem d16_4 : decode jdk_18_method_1_code 4 = .ok (.return_, 1) := by decide +kernel
theorem ef_16_9 (m : MethodId) (x0 : Addr) : entryFrame m #[(.ref x0)] 1 = mkF m 0 #[.val (.ref x0)] [] := by first | (simp [entryFrame, mkF, argsToLocals, Value.category]; done) | rfl
theorem pn_6 : plainName "java/lang/Number" = true := by first | (simp [plainName, overriddenIn]; done) | decide +kernel
def Q_rm16_0 (Z : State) (a1 : Addr) (h0 : Heap) (n0 : Nat) (v : Option Value) (h : Heap) (L : List Loc) : Prop := v = none ∧ Fr n0 L ∧ h = h0
set_option maxRecDepth 65536 in
set_option maxHeartbeats 40000000 in
theorem rm16_0 (l : Launch) (Z : State) (a0 : Array Value) (hw : ∀ d ∈ tables_1, d.before a0 Z = true) (ws : List Jvm.Cond) (a1 : Addr) (h0 : Heap) (n0 : Nat) (OL0 : Old Z n0 h0)  :
    MetFree l (⟨"java/lang/Number", "<init>", "()V"⟩ : MethodName) (head1 (Jvm.Cond.code (⟨"java/lang/Number", "<init>", "()V"⟩ : MethodName) jdk_18_method_1_code 1 none :: ws) ({ frames := 1, cells := 0, slots := 0, locals := 12 } : Room)) (fun a U => a = #[(.ref a1)] ∧ Z.Warmed39 U.vm ∧ U.heap = h0) (fun _ _ _ _ _ => True) (fun _ U o U' => ∃ v L, o = .returned v ∧ Q_rm16_0 Z a1 h0 n0 v U'.heap L ∧ FrameEnd U o U' L ({ frames := 1, cells := 0, slots := 0, locals := 12 } : Room).cells ({ frames := 1, cells := 0, slots := 0, locals := 12 } : Room).slots) := by
  refine MetFree.of_bodySF (plainFor_of_name pn_6) hisR ?_
  intro p e s m args below meth c s₁ Bd hml0 hP hK
  obtain ⟨rfl, hZ, hh⟩ := hP
  have hx := Bd.exec
  have hby := Bd.bytes
  have hml : c.maxLocals = 1 := hml0
  have hown : s.vm.findClass "java/lang/Number" = some m.cls := findClass_of_methodNamed Bd.named
  have hnm := (name_of_methodNamed Bd.named Bd.method).1
  have X0 : Stand p l e ({ frames := 1, cells := 0, slots := 0, locals := 12 } : Room) s m #[(.ref a1)] below meth c s₁ [] 0 0 := Stand.of_body Bd
  have e0 : s₁.heap = h0 := by rw [← hh, Bd.state]; rfl
  have N0 := Fr.nil n0
  have pre0 : ∀ t, Steps p.tables e below (s₁.setTop (mkF m 0 #[.val (.ref a1)] [])) t → Steps p.tables e below (s₁.setTop (entryFrame m #[(.ref a1)] 1)) t := fun t k => castTop (ef_16_9 m a1) k
  obtain ⟨T2, X2, e2, st2⟩ := initO X0 hx hZ hown (wd121 hw) (wd24 hw) (wd25 hw) e0 (g := (mkF m 1 #[.val (.ref a1)] [(.ref a1)])) rfl (by rw [hml]; rfl) rfl (hb hby d16_1) (by decide) (W := 0) (by show 2 * 0 + _ ≤ _; exact Nat.le_of_eq rfl) (by decide)
  obtain ⟨fs, hr, hrun, hended, hW, hsame⟩ := X2.leave (v := none) (fun _ => rfl)
  refine ⟨_, _, pre0 _ ?_, hrun, hended, _, _, rfl, ?_, ⟨_, rfl⟩, hW, hsame.mono (by decide) (by decide)⟩
  · show Steps p.tables e below (s₁.setTop (mkF m 0 #[.val (.ref a1)] [])) _
    refine XS.aloadN X0.here hx rfl (hb hby d16_0) rfl rfl ?_
    show Steps p.tables e below (s₁.setTop (mkF m 1 #[.val (.ref a1)] [(.ref a1)])) _
    refine st2 _ ?_
    show Steps p.tables e below (T2.setTop (mkF m 4 #[.val (.ref a1)] [])) _
    exact X2.returnOut hx Bd.returns (hb hby d16_4) hr
  · show Q_rm16_0 Z a1 h0 n0 _ T2.heap _
    rw [e2]
    exact ⟨rfl, N0, rfl⟩
theorem d15_4 : decode jdk_35_method_26_code 4 = .ok (.aload_n 0, 1) := by decide +kernel
theorem d15_5 : decode jdk_35_method_26_code 5 = .ok (.lload_n 1, 1) := by decide +kernel
theorem d15_6 : decode jdk_35_method_26_code 6 = .ok (.putfield 273, 3) := by decide +kernel
theorem d15_9 : decode jdk_35_method_26_code 9 = .ok (.return_, 1) := by decide +kernel
theorem ef_15_10 (m : MethodId) (x0 : Addr) (x1 : Int64) : entryFrame m #[(.ref x0), (.long x1)] 3 = mkF m 0 #[.val (.ref x0), .val (.long x1), .second] [] := by first | (simp [entryFrame, mkF, argsToLocals, Value.category]; done) | rfl
theorem pn_7 : plainName "java/lang/Long" = true := by first | (simp [plainName, overriddenIn]; done) | decide +kernel
def Q_rm15_0 (Z : State) (a1 : Addr) (q2 : Int64) (h0 : Heap) (n0 : Nat) (v : Option Value) (h : Heap) (L : List Loc) : Prop := v = none ∧ Fr n0 L ∧ Keep h0 h [a1] ∧ Fld Z h a1 "java/lang/Long" "value" "J" (.long q2)
set_option maxRecDepth 65536 in
set_option maxHeartbeats 40000000 in
theorem rm15_0 (l : Launch) (Z : State) (a0 : Array Value) (hw : ∀ d ∈ tables_1, d.before a0 Z = true) (ws : List Jvm.Cond) (a1 : Addr) (q2 : Int64) (h0 : Heap) (n0 : Nat) (OL0 : Old Z n0 h0) (pr1 : Exa Z h0 a1 "java/lang/Long") (pr2 : Fld Z h0 a1 "java/lang/Long" "value" "J" (.long (0 : Int64))) (pr3 : n0 ≤ a1) :
    MetFree l (⟨"java/lang/Long", "<init>", "(J)V"⟩ : MethodName) (head1 (Jvm.Cond.code (⟨"java/lang/Long", "<init>", "(J)V"⟩ : MethodName) jdk_35_method_26_code 3 none :: ws) ({ frames := 2, cells := 0, slots := 0, locals := 24 } : Room)) (fun a U => a = #[(.ref a1), (.long q2)] ∧ Z.Warmed39 U.vm ∧ U.heap = h0) (fun _ _ _ _ _ => True) (fun _ U o U' => ∃ v L, o = .returned v ∧ Q_rm15_0 Z a1 q2 h0 n0 v U'.heap L ∧ FrameEnd U o U' L ({ frames := 2, cells := 0, slots := 0, locals := 24 } : Room).cells ({ frames := 2, cells := 0, slots := 0, locals := 24 } : Room).slots) := by
  refine MetFree.of_bodySF (plainFor_of_name pn_7) hisR ?_
  intro p e s m args below meth c s₁ Bd hml0 hP hK
  obtain ⟨rfl, hZ, hh⟩ := hP
  have hx := Bd.exec
  have hby := Bd.bytes
  have hml : c.maxLocals = 3 := hml0
  have hown : s.vm.findClass "java/lang/Long" = some m.cls := findClass_of_methodNamed Bd.named
  have hnm := (name_of_methodNamed Bd.named Bd.method).1
  have X0 : Stand p l e ({ frames := 2, cells := 0, slots := 0, locals := 24 } : Room) s m #[(.ref a1), (.long q2)] below meth c s₁ [] 0 0 := Stand.of_body Bd
  have e0 : s₁.heap = h0 := by rw [← hh, Bd.state]; rfl
  have N0 := Fr.nil n0
  have pre0 : ∀ t, Steps p.tables e below (s₁.setTop (mkF m 0 #[.val (.ref a1), .val (.long q2), .second] [])) t → Steps p.tables e below (s₁.setTop (entryFrame m #[(.ref a1), (.long q2)] 3)) t := fun t k => castTop (ef_15_10 m a1 q2) k
  obtain ⟨_, _, ⟨T3, L3, k3, n3⟩, -, X3, ⟨Lc3, hQ3, l3, y3, z3⟩, st3⟩ := X0.specialBack hx (y := (⟨"java/lang/Number", "<init>", "()V"⟩ : MethodName)) rfl hown (mvT hZ (wd115 hw)) (mvT hZ (wd116 hw)) (mvT hZ (wd120 hw)) (by decide) (backOf (W := 0) (rm16_0 l Z a0 hw [] a1 h0 n0 OL0 ) hZ (wd120 hw) (wd119 hw) (by decide) (by decide)) (g := (mkF m 1 #[.val (.ref a1), .val (.long q2), .second] [(.ref a1)])) rfl (by rw [hml]; rfl) (Steps.refl _) (a := a1) (argsL := []) (rest := []) (lenOf pd_0 rfl) rfl (by show 2 * 0 + _ ≤ _; exact Nat.le_of_eq rfl) (hb hby d15_1) (fun _ _ => ⟨rfl, e0, (by decide : 0 + 0 ≤ _), (by decide : 0 + 0 ≤ _)⟩)
  dsimp only [Pt.U, Pt.locs, Pt.cells, Pt.slots] at X3 l3 y3 z3 st3 hQ3
  subst l3 y3 z3
  obtain ⟨rfl, Nq3, ec3⟩ := hQ3
  have N3 := Fr.app N0 Nq3
  obtain ⟨T4, h4, X4, e4, W4, st4⟩ := putF X3 hx hZ hown (host := "") (Or.inl (wd122 hw)) Via.refl ec3 pr2 pr1 (Or.inr ⟨(wd123 hw), rfl, hnm⟩) (wd110 hw) (ty := .long) (by decide) rfl rfl (g := (mkF m 6 #[.val (.ref a1), .val (.long q2), .second] [(.long q2), (.ref a1)])) rfl rfl (hb hby d15_6)
  have Fw4 := pr2.same W4
  have KK4 : Keep h0 h4 [a1] := (Keep.refl h0 [a1]).wr W4 (Or.inl (List.mem_of_getElem? (i := 0) rfl))
  have OL4 := OL0.wr W4 pr3
  have N4 := Fr.snoc X4 N3 pr3
  obtain ⟨fs, hr, hrun, hended, hW, hsame⟩ := X4.leave (v := none) (fun _ => rfl)
  refine ⟨_, _, pre0 _ ?_, hrun, hended, _, _, rfl, ?_, ⟨_, rfl⟩, hW, hsame.mono (by decide) (by decide)⟩
  · show Steps p.tables e below (s₁.setTop (mkF m 0 #[.val (.ref a1), .val (.long q2), .second] [])) _
    refine XS.aloadN X0.here hx rfl (hb hby d15_0) rfl rfl ?_
    show Steps p.tables e below (s₁.setTop (mkF m 1 #[.val (.ref a1), .val (.long q2), .second] [(.ref a1)])) _
    refine st3.trans ?_
    show Steps p.tables e below (T3.setTop (mkF m 4 #[.val (.ref a1), .val (.long q2), .second] [])) _
    refine XS.aloadN X3.here hx rfl (hb hby d15_4) rfl rfl ?_
    refine XS.lloadN X3.here hx rfl (hb hby d15_5) rfl ?_
    show Steps p.tables e below (T3.setTop (mkF m 6 #[.val (.ref a1), .val (.long q2), .second] [(.long q2), (.ref a1)])) _
    refine st4 _ ?_
    show Steps p.tables e below (T4.setTop (mkF m 9 #[.val (.ref a1), .val (.long q2), .second] [])) _
    exact X4.returnOut hx Bd.returns (hb hby d15_9) hr
  · show Q_rm15_0 Z a1 q2 h0 n0 _ T4.heap _
    rw [e4]
    exact ⟨rfl, N4, KK4, Fw4⟩
theorem pd_5 : parseMethodDescriptor "(J)V" = some ⟨[.long], none⟩ := by decide +kernel
theorem d14_39 : decode jdk_35_method_24_code 39 = .ok (.areturn, 1) := by decide +kernel
theorem ef_14_11 (m : MethodId) (x0 : Int64) : entryFrame m #[(.long x0)] 3 = mkF m 0 #[.val (.long x0), .second, .unset] [] := by first | (simp [entryFrame, mkF, argsToLocals, Value.category]; done) | rfl
def Q_rm14_0 (Z : State) (q1 : Int64) (h0 : Heap) (n0 : Nat) (v : Option Value) (h : Heap) (L : List Loc) : Prop := ∃ b2 : Addr, v = some (.ref b2) ∧ Fr n0 L ∧ Keep h0 h [] ∧ h0.size ≤ b2 ∧ Exa Z h b2 "java/lang/Long" ∧ Fld Z h b2 "java/lang/Long" "value" "J" (.long q1)
set_option maxRecDepth 65536 in
set_option maxHeartbeats 40000000 in
theorem rm14_0 (l : Launch) (Z : State) (a0 : Array Value) (hw : ∀ d ∈ tables_1, d.before a0 Z = true) (ws : List Jvm.Cond) (q1 : Int64) (h0 : Heap) (n0 : Nat) (OL0 : Old Z n0 h0) (pr1 : q1 < (-128 : Int64)) :
    MetFree l (⟨"java/lang/Long", "valueOf", "(J)Ljava/lang/Long;"⟩ : MethodName) (head1 (Jvm.Cond.code (⟨"java/lang/Long", "valueOf", "(J)Ljava/lang/Long;"⟩ : MethodName) jdk_35_method_24_code 3 (some (.object "java/lang/Long")) :: ws) ({ frames := 3, cells := 1, slots := 1, locals := 39 } : Room)) (fun a U => a = #[(.long q1)] ∧ Z.Warmed39 U.vm ∧ U.heap = h0) (fun _ _ _ _ _ => True) (fun _ U o U' => ∃ v L, o = .returned v ∧ Q_rm14_0 Z q1 h0 n0 v U'.heap L ∧ FrameEnd U o U' L ({ frames := 3, cells := 1, slots := 1, locals := 39 } : Room).cells ({ frames := 3, cells := 1, slots := 1, locals := 39 } : Room).slots) := by
  refine MetFree.of_bodySF (plainFor_of_name pn_7) hisR ?_
  intro p e s m args below meth c s₁ Bd hml0 hP hK
  obtain ⟨rfl, hZ, hh⟩ := hP
  have hx := Bd.exec
  have hby := Bd.bytes
  have hml : c.maxLocals = 3 := hml0
  have hown : s.vm.findClass "java/lang/Long" = some m.cls := findClass_of_methodNamed Bd.named
  have hnm := (name_of_methodNamed Bd.named Bd.method).1
  have X0 : Stand p l e ({ frames := 3, cells := 1, slots := 1, locals := 39 } : Room) s m #[(.long q1)] below meth c s₁ [] 0 0 := Stand.of_body Bd
  have e0 : s₁.heap = h0 := by rw [← hh, Bd.state]; rfl
  have N0 := Fr.nil n0
  have pre0 : ∀ t, Steps p.tables e below (s₁.setTop (mkF m 0 #[.val (.long q1), .second, .unset] [])) t → Steps p.tables e below (s₁.setTop (entryFrame m #[(.long q1)] 3)) t := fun t k => castTop (ef_14_11 m q1) k
  obtain ⟨T2, h2, X2, e2, E2, A2, D2, -, st2⟩ := newO X0 hx hZ hown (wd109 hw) (wd110 hw) (wd106 hw) e0 (g := (mkF m 31 #[.val (.long q1), .second, .val (.int (128 : Int32))] [])) rfl (hb hby d14_31) (by decide) (by decide)
  obtain ⟨b2, g2⟩ : ∃ z, z = h0.size := ⟨_, rfl⟩
  rw [← g2] at A2 D2 st2
  have g_b2 : n0 ≤ b2 := (Nat.le_trans (Nat.le_trans (Nat.le_of_eq OL0.1.symm) OL0.2.1) (Nat.le_of_eq g2.symm))
  have sz_b2 : h0.size ≤ b2 := (Nat.le_trans (Keep.refl h0 []).1 (Nat.le_of_eq g2.symm))
  have KK2 : Keep h0 h2 [] := (Keep.refl h0 []).ext E2
  have OL2 := OL0.ext E2
  have F_value_b2 : Fld Z h2 b2 "java/lang/Long" "value" "J" (.long (0 : Int64)) := D2 (Or.inr (wd123 hw)) (ty := .long) (by decide)
  obtain ⟨_, _, ⟨T3, L3, k3, n3⟩, -, X3, ⟨Lc3, hQ3, l3, y3, z3⟩, st3⟩ := X2.specialBack hx (y := (⟨"java/lang/Long", "<init>", "(J)V"⟩ : MethodName)) rfl hown (mvT hZ (wd111 hw)) (mvT hZ (wd112 hw)) (mvT hZ (wd114 hw)) (by decide) (backOf (W := 1) (rm15_0 l Z a0 hw [] b2 q1 h2 n0 OL2 A2 F_value_b2 g_b2) hZ (wd114 hw) (wd106 hw) (by decide) (by decide)) (g := (mkF m 36 #[.val (.long q1), .second, .val (.int (128 : Int32))] [(.long q1), (.ref b2), (.ref b2)])) rfl (by rw [hml]; rfl) (Steps.refl _) (a := b2) (argsL := [(.long q1)]) (rest := [(.ref b2)]) (lenOf pd_5 rfl) rfl (by show 2 * 0 + _ ≤ _; exact Nat.le_of_eq rfl) (hb hby d14_36) (fun _ _ => ⟨rfl, e2, (by decide : 1 + 0 ≤ _), (by decide : 1 + 0 ≤ _)⟩)
  dsimp only [Pt.U, Pt.locs, Pt.cells, Pt.slots] at X3 l3 y3 z3 st3 hQ3
  subst l3 y3 z3
  obtain ⟨rfl, Nq3, K3, u3_0⟩ := hQ3
  have KK3 : Keep h0 T3.heap [] := KK2.trans K3 (allS (Or.inr sz_b2) all0)
  have OL3 := OL2.keep K3 (allS g_b2 all0)
  have N3 := Fr.app N0 Nq3
  have fc4 := (A2.keep K3)
  obtain ⟨fs, hr, hrun, hended, hW, hsame⟩ := X3.leave (v := some (.ref b2)) (fun h => by rw [Bd.returns] at h; cases h)
  refine ⟨_, _, pre0 _ ?_, hrun, hended, _, _, rfl, ?_, ⟨_, rfl⟩, hW, hsame.mono (by decide) (by decide)⟩
  · show Steps p.tables e below (s₁.setTop (mkF m 0 #[.val (.long q1), .second, .unset] [])) _
    refine XS.sipush X0.here hx rfl (hb hby d14_0) ?_
    refine XS.istoreN X0.here hx rfl (hb hby d14_3) rfl (l' := #[.val (.long q1), .second, .val (.int (128 : Int32))]) rfl ?_
    refine XS.lloadN X0.here hx rfl (hb hby d14_4) rfl ?_
    show Steps p.tables e below (s₁.setTop (mkF m 5 #[.val (.long q1), .second, .val (.int (128 : Int32))] [(.long q1)])) _
    refine X0.ldc2Long hx hown (mvT hZ (wd108 hw)) (g := (mkF m 5 #[.val (.long q1), .second, .val (.int (128 : Int32))] [(.long q1)])) rfl (hb hby d14_5) _ ?_
    show Steps p.tables e below (s₁.setTop (mkF m 8 #[.val (.long q1), .second, .val (.int (128 : Int32))] [(.long (-128 : Int64)), (.long q1)])) _
    refine XS.lcmp X0.here hx rfl (hb hby d14_8) rfl ?_
    show Steps p.tables e below (s₁.setTop (mkF m 9 #[.val (.long q1), .second, .val (.int (128 : Int32))] [(.int (lcmpW q1 (-128 : Int64)))])) _
    refine XS.ifYes X0.here hx rfl (pc0 := 9) (pc' := 31) rfl (hb hby d14_9) rfl ((if0 _ _).trans (tlt (((lw_lt q1 (-128 : Int64)).mpr pr1) : (lcmpW q1 (-128 : Int64)) < (0 : Int32))).1) (by decide) (by decide) ?_
    show Steps p.tables e below (s₁.setTop (mkF m 31 #[.val (.long q1), .second, .val (.int (128 : Int32))] [])) _
    refine st2 _ ?_
    show Steps p.tables e below (T2.setTop (mkF m 34 #[.val (.long q1), .second, .val (.int (128 : Int32))] [(.ref b2)])) _
    refine XS.dup X2.here hx rfl (hb hby d14_34) rfl rfl ?_
    refine XS.lloadN X2.here hx rfl (hb hby d14_35) rfl ?_
    show Steps p.tables e below (T2.setTop (mkF m 36 #[.val (.long q1), .second, .val (.int (128 : Int32))] [(.long q1), (.ref b2), (.ref b2)])) _
    refine st3.trans ?_
    show Steps p.tables e below (T3.setTop (mkF m 39 #[.val (.long q1), .second, .val (.int (128 : Int32))] [(.ref b2)])) _
    jvm_step X3.here [X3.here.top, hx, (hb hby d14_39), X3.method', Bd.returns, Value.isRef, FieldType.isReference]
    first | (intro acts; rw [hr _ acts rfl rfl rfl]) | rw [hr _ _ rfl rfl rfl]
    exact Steps.refl _
  · show Q_rm14_0 Z q1 h0 n0 _ T3.heap _
    exact ⟨b2, rfl, N3, KK3, sz_b2, fc4, u3_0⟩
theorem pd_6 : parseMethodDescriptor "(J)Ljava/lang/Long;" = some ⟨[.long], some (.object "java/lang/Long")⟩ := by decide +kernel
theorem ef_4_12 (m : MethodId) (x0 : Addr) (x1 : Addr) (x2 : Addr) : entryFrame m #[(.ref x0), (.ref x1), (.ref x2)] 3 = mkF m 0 #[.val (.ref x0), .val (.ref x1), .val (.ref x2)] [] := by first | (simp [entryFrame, mkF, argsToLocals, Value.category]; done) | rfl
def Q_rm4_1 (Z : State) (a1 : Addr) (a2 : Addr) (a3 : Addr) (h0 : Heap) (n0 : Nat) (v : Option Value) (h : Heap) (L : List Loc) : Prop := v = none ∧ Fr n0 L ∧ Keep h0 h [a1] ∧ Fld Z h a1 "com/example/rowforge/rowforge/Field$Constant" "value" "Ljava/lang/Object;" (.ref a2) ∧ Fld Z h a1 "com/example/rowforge/rowforge/Field$Constant" "column" "Lcom/example/rowforge/rowforge/Column;" (.ref a3)
set_option maxRecDepth 65536 in
set_option maxHeartbeats 40000000 in
theorem rm4_1 (l : Launch) (Z : State) (a0 : Array Value) (hw : ∀ d ∈ tables_1, d.before a0 Z = true) (ws : List Jvm.Cond) (a1 : Addr) (a2 : Addr) (a3 : Addr) (h0 : Heap) (n0 : Nat) (OL0 : Old Z n0 h0) (pr1 : Exa Z h0 a1 "com/example/rowforge/rowforge/Field$Constant") (pr2 : Fld Z h0 a1 "com/example/rowforge/rowforge/Field$Constant" "value" "Ljava/lang/Object;" .null) (pr3 : n0 ≤ a1) (pr4 : Fld Z h0 a1 "com/example/rowforge/rowforge/Field$Constant" "column" "Lcom/example/rowforge/rowforge/Column;" .null) :
    MetFree l (⟨"com/example/rowforge/rowforge/Field$Constant", "<init>", "(Ljava/lang/Object;Lcom/example/rowforge/rowforge/Column;)V"⟩ : MethodName) (head1 (Jvm.Cond.code (⟨"com/example/rowforge/rowforge/Field$Constant", "<init>", "(Ljava/lang/Object;Lcom/example/rowforge/rowforge/Column;)V"⟩ : MethodName) prog_10_method_1_code 3 none :: ws) ({ frames := 2, cells := 0, slots := 0, locals := 24 } : Room)) (fun a U => a = #[(.ref a1), (.ref a2), (.ref a3)] ∧ Z.Warmed39 U.vm ∧ U.heap = h0) (fun _ _ _ _ _ => True) (fun _ U o U' => ∃ v L, o = .returned v ∧ Q_rm4_1 Z a1 a2 a3 h0 n0 v U'.heap L ∧ FrameEnd U o U' L ({ frames := 2, cells := 0, slots := 0, locals := 24 } : Room).cells ({ frames := 2, cells := 0, slots := 0, locals := 24 } : Room).slots) := by
  refine MetFree.of_bodySF (plainFor_of_name pn_2) hisR ?_
  intro p e s m args below meth c s₁ Bd hml0 hP hK
  obtain ⟨rfl, hZ, hh⟩ := hP
  have hx := Bd.exec
  have hby := Bd.bytes
  have hml : c.maxLocals = 3 := hml0
  have hown : s.vm.findClass "com/example/rowforge/rowforge/Field$Constant" = some m.cls := findClass_of_methodNamed Bd.named
  have hnm := (name_of_methodNamed Bd.named Bd.method).1
  have X0 : Stand p l e ({ frames := 2, cells := 0, slots := 0, locals := 24 } : Room) s m #[(.ref a1), (.ref a2), (.ref a3)] below meth c s₁ [] 0 0 := Stand.of_body Bd
  have e0 : s₁.heap = h0 := by rw [← hh, Bd.state]; rfl
  have N0 := Fr.nil n0
  have pre0 : ∀ t, Steps p.tables e below (s₁.setTop (mkF m 0 #[.val (.ref a1), .val (.ref a2), .val (.ref a3)] [])) t → Steps p.tables e below (s₁.setTop (entryFrame m #[(.ref a1), (.ref a2), (.ref a3)] 3)) t := fun t k => castTop (ef_4_12 m a1 a2 a3) k
  obtain ⟨_, _, ⟨T4, L4, k4, n4⟩, -, X4, ⟨Lc4, hQ4, l4, y4, z4⟩, st4⟩ := X0.specialBack hx (y := (⟨"java/lang/Record", "<init>", "()V"⟩ : MethodName)) rfl hown (mvT hZ (wd44 hw)) (mvT hZ (wd19 hw)) (mvT hZ (wd22 hw)) (by decide) (backOf (W := 0) (rm2_0 l Z a0 hw [] a1 h0 n0 OL0 ) hZ (wd22 hw) (wd21 hw) (by decide) (by decide)) (g := (mkF m 1 #[.val (.ref a1), .val (.ref a2), .val (.ref a3)] [(.ref a1)])) rfl (by rw [hml]; rfl) (Steps.refl _) (a := a1) (argsL := []) (rest := []) (lenOf pd_0 rfl) rfl (by show 2 * 0 + _ ≤ _; exact Nat.le_of_eq rfl) (hb hby d4_1) (fun _ _ => ⟨rfl, e0, (by decide : 0 + 0 ≤ _), (by decide : 0 + 0 ≤ _)⟩)
  dsimp only [Pt.U, Pt.locs, Pt.cells, Pt.slots] at X4 l4 y4 z4 st4 hQ4
  subst l4 y4 z4
  obtain ⟨rfl, Nq4, ec4⟩ := hQ4
  have N4 := Fr.app N0 Nq4
  obtain ⟨T5, h5, X5, e5, W5, st5⟩ := putF X4 hx hZ hown (host := "") (Or.inl (wd45 hw)) Via.refl ec4 pr2 pr1 (Or.inr ⟨(wd46 hw), rfl, hnm⟩) (wd39 hw) (ty := (.object "java/lang/Object")) (by decide) rfl rfl (g := (mkF m 6 #[.val (.ref a1), .val (.ref a2), .val (.ref a3)] [(.ref a2), (.ref a1)])) rfl rfl (hb hby d4_6)
  have Fw5 := pr2.same W5
  have KK5 : Keep h0 h5 [a1] := (Keep.refl h0 [a1]).wr W5 (Or.inl (List.mem_of_getElem? (i := 0) rfl))
  have OL5 := OL0.wr W5 pr3
  have N5 := Fr.snoc X5 N4 pr3
  have fc6 := (pr1.wr W5)
  have fc7 := (pr4.other W5 (Or.inr (slot_ne (Or.inr (wd48 hw)) (Or.inr (wd46 hw)) (by decide) (t := (.object "com/example/rowforge/rowforge/Column")) (t' := (.object "java/lang/Object")) (by decide) (by decide))))
  obtain ⟨T8, h8, X8, e8, W8, st8⟩ := putF X5 hx hZ hown (host := "") (Or.inl (wd47 hw)) Via.refl e5 fc7 fc6 (Or.inr ⟨(wd48 hw), rfl, hnm⟩) (wd39 hw) (ty := (.object "com/example/rowforge/rowforge/Column")) (by decide) rfl rfl (g := (mkF m 11 #[.val (.ref a1), .val (.ref a2), .val (.ref a3)] [(.ref a3), (.ref a1)])) rfl rfl (hb hby d4_11)
  have Fw8 := fc7.same W8
  have KK8 : Keep h0 h8 [a1] := KK5.wr W8 (Or.inl (List.mem_of_getElem? (i := 0) rfl))
  have OL8 := OL5.wr W8 pr3
  have N8 := Fr.snoc X8 N5 pr3
  have fc9 := (Fw5.other W8 (Or.inr (slot_ne (Or.inr (wd46 hw)) (Or.inr (wd48 hw)) (by decide) (t := (.object "java/lang/Object")) (t' := (.object "com/example/rowforge/rowforge/Column")) (by decide) (by decide))))
  obtain ⟨fs, hr, hrun, hended, hW, hsame⟩ := X8.leave (v := none) (fun _ => rfl)
  refine ⟨_, _, pre0 _ ?_, hrun, hended, _, _, rfl, ?_, ⟨_, rfl⟩, hW, hsame.mono (by decide) (by decide)⟩
  · show Steps p.tables e below (s₁.setTop (mkF m 0 #[.val (.ref a1), .val (.ref a2), .val (.ref a3)] [])) _
    refine XS.aloadN X0.here hx rfl (hb hby d4_0) rfl rfl ?_
    show Steps p.tables e below (s₁.setTop (mkF m 1 #[.val (.ref a1), .val (.ref a2), .val (.ref a3)] [(.ref a1)])) _
    refine st4.trans ?_
    show Steps p.tables e below (T4.setTop (mkF m 4 #[.val (.ref a1), .val (.ref a2), .val (.ref a3)] [])) _
    refine XS.aloadN X4.here hx rfl (hb hby d4_4) rfl rfl ?_
    refine XS.aloadN X4.here hx rfl (hb hby d4_5) rfl rfl ?_
    show Steps p.tables e below (T4.setTop (mkF m 6 #[.val (.ref a1), .val (.ref a2), .val (.ref a3)] [(.ref a2), (.ref a1)])) _
    refine st5 _ ?_
    show Steps p.tables e below (T5.setTop (mkF m 9 #[.val (.ref a1), .val (.ref a2), .val (.ref a3)] [])) _
    refine XS.aloadN X5.here hx rfl (hb hby d4_9) rfl rfl ?_
    refine XS.aloadN X5.here hx rfl (hb hby d4_10) rfl rfl ?_
    show Steps p.tables e below (T5.setTop (mkF m 11 #[.val (.ref a1), .val (.ref a2), .val (.ref a3)] [(.ref a3), (.ref a1)])) _
    refine st8 _ ?_
    show Steps p.tables e below (T8.setTop (mkF m 14 #[.val (.ref a1), .val (.ref a2), .val (.ref a3)] [])) _
    exact X8.returnOut hx Bd.returns (hb hby d4_14) hr
  · show Q_rm4_1 Z a1 a2 a3 h0 n0 _ T8.heap _
    rw [e8]
    exact ⟨rfl, N8, KK8, fc9, Fw8⟩
theorem d8_11 : decode prog_10_method_4_code 11 = .ok (.iconst 0, 1) := by decide +kernel
def Q_rm8_1 (Z : State) (a1 : Addr) (a2 : Addr) (h0 : Heap) (n0 : Nat) (v : Option Value) (h : Heap) (L : List Loc) : Prop := v = some (.int (0 : Int32)) ∧ Fr n0 L ∧ h = h0
set_option maxRecDepth 65536 in
set_option maxHeartbeats 40000000 in
theorem rm8_1 (l : Launch) (Z : State) (a0 : Array Value) (hw : ∀ d ∈ tables_1, d.before a0 Z = true) (ws : List Jvm.Cond) (a1 : Addr) (a2 : Addr) (h0 : Heap) (n0 : Nat) (OL0 : Old Z n0 h0) (pr1 : Fld Z h0 a1 "com/example/rowforge/rowforge/Field$Constant" "value" "Ljava/lang/Object;" (.ref a2)) :
    MetFree l (⟨"com/example/rowforge/rowforge/Field$Constant", "nullable", "()Z"⟩ : MethodName) (head1 (Jvm.Cond.code (⟨"com/example/rowforge/rowforge/Field$Constant", "nullable", "()Z"⟩ : MethodName) prog_10_method_4_code 1 (some .boolean) :: ws) ({ frames := 0, cells := 0, slots := 0, locals := 0 } : Room)) (fun a U => a = #[(.ref a1)] ∧ Z.Warmed39 U.vm ∧ U.heap = h0) (fun _ _ _ _ _ => True) (fun _ U o U' => ∃ v L, o = .returned v ∧ Q_rm8_1 Z a1 a2 h0 n0 v U'.heap L ∧ FrameEnd U o U' L ({ frames := 0, cells := 0, slots := 0, locals := 0 } : Room).cells ({ frames := 0, cells := 0, slots := 0, locals := 0 } : Room).slots) := by
  refine MetFree.of_bodySF (plainFor_of_name pn_2) hisR ?_
  intro p e s m args below meth c s₁ Bd hml0 hP hK
  obtain ⟨rfl, hZ, hh⟩ := hP
  have hx := Bd.exec
  have hby := Bd.bytes
  have hml : c.maxLocals = 1 := hml0
  have hown : s.vm.findClass "com/example/rowforge/rowforge/Field$Constant" = some m.cls := findClass_of_methodNamed Bd.named
  have hnm := (name_of_methodNamed Bd.named Bd.method).1
  have X0 : Stand p l e ({ frames := 0, cells := 0, slots := 0, locals := 0 } : Room) s m #[(.ref a1)] below meth c s₁ [] 0 0 := Stand.of_body Bd
  have e0 : s₁.heap = h0 := by rw [← hh, Bd.state]; rfl
  have N0 := Fr.nil n0
  have pre0 : ∀ t, Steps p.tables e below (s₁.setTop (mkF m 0 #[.val (.ref a1)] [])) t → Steps p.tables e below (s₁.setTop (entryFrame m #[(.ref a1)] 1)) t := fun t k => castTop (ef_8_6 m a1) k
  obtain ⟨T3, X3, e3, st3⟩ := getF X0 hx hZ hown (host := "") (Or.inl (wd45 hw)) Via.refl e0 pr1 (g := (mkF m 1 #[.val (.ref a1)] [(.ref a1)])) rfl rfl (hb hby d8_1)
  obtain ⟨fs, hr, hrun, hended, hW, hsame⟩ := X3.leave (v := some (.int (0 : Int32))) (fun h => by rw [Bd.returns] at h; cases h)
  refine ⟨_, _, pre0 _ ?_, hrun, hended, _, _, rfl, ?_, ⟨_, rfl⟩, hW, hsame.mono (by decide) (by decide)⟩
  · show Steps p.tables e below (s₁.setTop (mkF m 0 #[.val (.ref a1)] [])) _
    refine XS.aloadN X0.here hx rfl (hb hby d8_0) rfl rfl ?_
    show Steps p.tables e below (s₁.setTop (mkF m 1 #[.val (.ref a1)] [(.ref a1)])) _
    refine st3 _ ?_
    show Steps p.tables e below (T3.setTop (mkF m 4 #[.val (.ref a1)] [(.ref a2)])) _
    refine XS.ifnonnullYes X3.here hx rfl (pc0 := 4) (pc' := 11) rfl (hb hby d8_4) rfl (by decide) (by decide) ?_
    show Steps p.tables e below (T3.setTop (mkF m 11 #[.val (.ref a1)] [])) _
    refine XS.iconst X3.here hx rfl (hb hby d8_11) ?_
    show Steps p.tables e below (T3.setTop (mkF m 12 #[.val (.ref a1)] [(.int (0 : Int32))])) _
    exact retN X3 hx (t := .boolean) Bd.returns (by simp) (hb hby d8_12) hr
  · show Q_rm8_1 Z a1 a2 h0 n0 _ T3.heap _
    rw [e3]
    exact ⟨rfl, N0, rfl⟩
def Q_rm9_1 (Z : State) (a1 : Addr) (a2 : Addr) (a3 : Addr) (h0 : Heap) (n0 : Nat) (v : Option Value) (h : Heap) (L : List Loc) : Prop := v = some (.ref a3) ∧ Fr n0 L ∧ h = h0
set_option maxRecDepth 65536 in
set_option maxHeartbeats 40000000 in
theorem rm9_1 (l : Launch) (Z : State) (a0 : Array Value) (hw : ∀ d ∈ tables_1, d.before a0 Z = true) (ws : List Jvm.Cond) (a1 : Addr) (a2 : Addr) (a3 : Addr) (h0 : Heap) (n0 : Nat) (OL0 : Old Z n0 h0) (pr1 : Fld Z h0 a1 "com/example/rowforge/rowforge/Field$Constant" "value" "Ljava/lang/Object;" (.ref a3)) :
    MetFree l (⟨"com/example/rowforge/rowforge/Field$Constant", "value", "(Ljava/util/List;)Ljava/lang/Object;"⟩ : MethodName) (head1 (Jvm.Cond.code (⟨"com/example/rowforge/rowforge/Field$Constant", "value", "(Ljava/util/List;)Ljava/lang/Object;"⟩ : MethodName) prog_10_method_5_code 2 (some (.object "java/lang/Object")) :: ws) ({ frames := 0, cells := 0, slots := 0, locals := 0 } : Room)) (fun a U => a = #[(.ref a1), (.ref a2)] ∧ Z.Warmed39 U.vm ∧ U.heap = h0) (fun _ _ _ _ _ => True) (fun _ U o U' => ∃ v L, o = .returned v ∧ Q_rm9_1 Z a1 a2 a3 h0 n0 v U'.heap L ∧ FrameEnd U o U' L ({ frames := 0, cells := 0, slots := 0, locals := 0 } : Room).cells ({ frames := 0, cells := 0, slots := 0, locals := 0 } : Room).slots) := by
  refine MetFree.of_bodySF (plainFor_of_name pn_2) hisR ?_
  intro p e s m args below meth c s₁ Bd hml0 hP hK
  obtain ⟨rfl, hZ, hh⟩ := hP
  have hx := Bd.exec
  have hby := Bd.bytes
  have hml : c.maxLocals = 2 := hml0
  have hown : s.vm.findClass "com/example/rowforge/rowforge/Field$Constant" = some m.cls := findClass_of_methodNamed Bd.named
  have hnm := (name_of_methodNamed Bd.named Bd.method).1
  have X0 : Stand p l e ({ frames := 0, cells := 0, slots := 0, locals := 0 } : Room) s m #[(.ref a1), (.ref a2)] below meth c s₁ [] 0 0 := Stand.of_body Bd
  have e0 : s₁.heap = h0 := by rw [← hh, Bd.state]; rfl
  have N0 := Fr.nil n0
  have pre0 : ∀ t, Steps p.tables e below (s₁.setTop (mkF m 0 #[.val (.ref a1), .val (.ref a2)] [])) t → Steps p.tables e below (s₁.setTop (entryFrame m #[(.ref a1), (.ref a2)] 2)) t := fun t k => castTop (ef_9_7 m a1 a2) k
  obtain ⟨T4, X4, e4, st4⟩ := getF X0 hx hZ hown (host := "") (Or.inl (wd45 hw)) Via.refl e0 pr1 (g := (mkF m 1 #[.val (.ref a1), .val (.ref a2)] [(.ref a1)])) rfl rfl (hb hby d9_1)
  obtain ⟨fs, hr, hrun, hended, hW, hsame⟩ := X4.leave (v := some (.ref a3)) (fun h => by rw [Bd.returns] at h; cases h)
  refine ⟨_, _, pre0 _ ?_, hrun, hended, _, _, rfl, ?_, ⟨_, rfl⟩, hW, hsame.mono (by decide) (by decide)⟩
  · show Steps p.tables e below (s₁.setTop (mkF m 0 #[.val (.ref a1), .val (.ref a2)] [])) _
    refine XS.aloadN X0.here hx rfl (hb hby d9_0) rfl rfl ?_
    show Steps p.tables e below (s₁.setTop (mkF m 1 #[.val (.ref a1), .val (.ref a2)] [(.ref a1)])) _
    refine st4 _ ?_
    show Steps p.tables e below (T4.setTop (mkF m 4 #[.val (.ref a1), .val (.ref a2)] [(.ref a3)])) _
    jvm_step X4.here [X4.here.top, hx, (hb hby d9_4), X4.method', Bd.returns, Value.isRef, FieldType.isReference]
    first | (intro acts; rw [hr _ acts rfl rfl rfl]) | rw [hr _ _ rfl rfl rfl]
    exact Steps.refl _
  · show Q_rm9_1 Z a1 a2 a3 h0 n0 _ T4.heap _
    rw [e4]
    exact ⟨rfl, N0, rfl⟩
theorem d14_12 : decode jdk_35_method_24_code 12 = .ok (.lload_n 0, 1) := by decide +kernel
theorem d14_13 : decode jdk_35_method_24_code 13 = .ok (.ldc2_w 232, 3) := by decide +kernel
theorem d14_16 : decode jdk_35_method_24_code 16 = .ok (.lcmp, 1) := by decide +kernel
theorem d14_17 : decode jdk_35_method_24_code 17 = .ok (.ifCond .gt 14, 3) := by decide +kernel
def Q_rm14_1 (Z : State) (q1 : Int64) (h0 : Heap) (n0 : Nat) (v : Option Value) (h : Heap) (L : List Loc) : Prop := ∃ b2 : Addr, v = some (.ref b2) ∧ Fr n0 L ∧ Keep h0 h [] ∧ h0.size ≤ b2 ∧ Exa Z h b2 "java/lang/Long" ∧ Fld Z h b2 "java/lang/Long" "value" "J" (.long q1)
set_option maxRecDepth 65536 in
set_option maxHeartbeats 40000000 in
theorem rm14_1 (l : Launch) (Z : State) (a0 : Array Value) (hw : ∀ d ∈ tables_1, d.before a0 Z = true) (ws : List Jvm.Cond) (q1 : Int64) (h0 : Heap) (n0 : Nat) (OL0 : Old Z n0 h0) (pr1 : ¬ (q1 < (-128 : Int64))) (pr2 : (127 : Int64) < q1) :
    MetFree l (⟨"java/lang/Long", "valueOf", "(J)Ljava/lang/Long;"⟩ : MethodName) (head1 (Jvm.Cond.code (⟨"java/lang/Long", "valueOf", "(J)Ljava/lang/Long;"⟩ : MethodName) jdk_35_method_24_code 3 (some (.object "java/lang/Long")) :: ws) ({ frames := 3, cells := 1, slots := 1, locals := 39 } : Room)) (fun a U => a = #[(.long q1)] ∧ Z.Warmed39 U.vm ∧ U.heap = h0) (fun _ _ _ _ _ => True) (fun _ U o U' => ∃ v L, o = .returned v ∧ Q_rm14_1 Z q1 h0 n0 v U'.heap L ∧ FrameEnd U o U' L ({ frames := 3, cells := 1, slots := 1, locals := 39 } : Room).cells ({ frames := 3, cells := 1, slots := 1, locals := 39 } : Room).slots) := by
  refine MetFree.of_bodySF (plainFor_of_name pn_7) hisR ?_
  intro p e s m args below meth c s₁ Bd hml0 hP hK
  obtain ⟨rfl, hZ, hh⟩ := hP
  have hx := Bd.exec
  have hby := Bd.bytes
  have hml : c.maxLocals = 3 := hml0
  have hown : s.vm.findClass "java/lang/Long" = some m.cls := findClass_of_methodNamed Bd.named
  have hnm := (name_of_methodNamed Bd.named Bd.method).1
  have X0 : Stand p l e ({ frames := 3, cells := 1, slots := 1, locals := 39 } : Room) s m #[(.long q1)] below meth c s₁ [] 0 0 := Stand.of_body Bd
  have e0 : s₁.heap = h0 := by rw [← hh, Bd.state]; rfl
  have N0 := Fr.nil n0
  have pre0 : ∀ t, Steps p.tables e below (s₁.setTop (mkF m 0 #[.val (.long q1), .second, .unset] [])) t → Steps p.tables e below (s₁.setTop (entryFrame m #[(.long q1)] 3)) t := fun t k => castTop (ef_14_11 m q1) k
  obtain ⟨T2, h2, X2, e2, E2, A2, D2, -, st2⟩ := newO X0 hx hZ hown (wd109 hw) (wd110 hw) (wd106 hw) e0 (g := (mkF m 31 #[.val (.long q1), .second, .val (.int (128 : Int32))] [])) rfl (hb hby d14_31) (by decide) (by decide)
  obtain ⟨b2, g2⟩ : ∃ z, z = h0.size := ⟨_, rfl⟩
  rw [← g2] at A2 D2 st2
  have g_b2 : n0 ≤ b2 := (Nat.le_trans (Nat.le_trans (Nat.le_of_eq OL0.1.symm) OL0.2.1) (Nat.le_of_eq g2.symm))
  have sz_b2 : h0.size ≤ b2 := (Nat.le_trans (Keep.refl h0 []).1 (Nat.le_of_eq g2.symm))
  have KK2 : Keep h0 h2 [] := (Keep.refl h0 []).ext E2
  have OL2 := OL0.ext E2
  have F_value_b2 : Fld Z h2 b2 "java/lang/Long" "value" "J" (.long (0 : Int64)) := D2 (Or.inr (wd123 hw)) (ty := .long) (by decide)
  obtain ⟨_, _, ⟨T3, L3, k3, n3⟩, -, X3, ⟨Lc3, hQ3, l3, y3, z3⟩, st3⟩ := X2.specialBack hx (y := (⟨"java/lang/Long", "<init>", "(J)V"⟩ : MethodName)) rfl hown (mvT hZ (wd111 hw)) (mvT hZ (wd112 hw)) (mvT hZ (wd114 hw)) (by decide) (backOf (W := 1) (rm15_0 l Z a0 hw [] b2 q1 h2 n0 OL2 A2 F_value_b2 g_b2) hZ (wd114 hw) (wd106 hw) (by decide) (by decide)) (g := (mkF m 36 #[.val (.long q1), .second, .val (.int (128 : Int32))] [(.long q1), (.ref b2), (.ref b2)])) rfl (by rw [hml]; rfl) (Steps.refl _) (a := b2) (argsL := [(.long q1)]) (rest := [(.ref b2)]) (lenOf pd_5 rfl) rfl (by show 2 * 0 + _ ≤ _; exact Nat.le_of_eq rfl) (hb hby d14_36) (fun _ _ => ⟨rfl, e2, (by decide : 1 + 0 ≤ _), (by decide : 1 + 0 ≤ _)⟩)
  dsimp only [Pt.U, Pt.locs, Pt.cells, Pt.slots] at X3 l3 y3 z3 st3 hQ3
  subst l3 y3 z3
  obtain ⟨rfl, Nq3, K3, u3_0⟩ := hQ3
  have KK3 : Keep h0 T3.heap [] := KK2.trans K3 (allS (Or.inr sz_b2) all0)
  have OL3 := OL2.keep K3 (allS g_b2 all0)
  have N3 := Fr.app N0 Nq3
  have fc4 := (A2.keep K3)
  obtain ⟨fs, hr, hrun, hended, hW, hsame⟩ := X3.leave (v := some (.ref b2)) (fun h => by rw [Bd.returns] at h; cases h)
  refine ⟨_, _, pre0 _ ?_, hrun, hended, _, _, rfl, ?_, ⟨_, rfl⟩, hW, hsame.mono (by decide) (by decide)⟩
  · show Steps p.tables e below (s₁.setTop (mkF m 0 #[.val (.long q1), .second, .unset] [])) _
    refine XS.sipush X0.here hx rfl (hb hby d14_0) ?_
    refine XS.istoreN X0.here hx rfl (hb hby d14_3) rfl (l' := #[.val (.long q1), .second, .val (.int (128 : Int32))]) rfl ?_
    refine XS.lloadN X0.here hx rfl (hb hby d14_4) rfl ?_
    show Steps p.tables e below (s₁.setTop (mkF m 5 #[.val (.long q1), .second, .val (.int (128 : Int32))] [(.long q1)])) _
    refine X0.ldc2Long hx hown (mvT hZ (wd108 hw)) (g := (mkF m 5 #[.val (.long q1), .second, .val (.int (128 : Int32))] [(.long q1)])) rfl (hb hby d14_5) _ ?_
    show Steps p.tables e below (s₁.setTop (mkF m 8 #[.val (.long q1), .second, .val (.int (128 : Int32))] [(.long (-128 : Int64)), (.long q1)])) _
    refine XS.lcmp X0.here hx rfl (hb hby d14_8) rfl ?_
    show Steps p.tables e below (s₁.setTop (mkF m 9 #[.val (.long q1), .second, .val (.int (128 : Int32))] [(.int (lcmpW q1 (-128 : Int64)))])) _
    refine XS.ifNo X0.here hx rfl (hb hby d14_9) rfl ((if0 _ _).trans (flt ((fun z => pr1 ((lw_lt q1 (-128 : Int64)).mp z)) : ¬ ((lcmpW q1 (-128 : Int64)) < (0 : Int32)))).1) ?_
    show Steps p.tables e below (s₁.setTop (mkF m 12 #[.val (.long q1), .second, .val (.int (128 : Int32))] [])) _
    refine XS.lloadN X0.here hx rfl (hb hby d14_12) rfl ?_
    show Steps p.tables e below (s₁.setTop (mkF m 13 #[.val (.long q1), .second, .val (.int (128 : Int32))] [(.long q1)])) _
    refine X0.ldc2Long hx hown (mvT hZ (wd126 hw)) (g := (mkF m 13 #[.val (.long q1), .second, .val (.int (128 : Int32))] [(.long q1)])) rfl (hb hby d14_13) _ ?_
    show Steps p.tables e below (s₁.setTop (mkF m 16 #[.val (.long q1), .second, .val (.int (128 : Int32))] [(.long (127 : Int64)), (.long q1)])) _
    refine XS.lcmp X0.here hx rfl (hb hby d14_16) rfl ?_
    show Steps p.tables e below (s₁.setTop (mkF m 17 #[.val (.long q1), .second, .val (.int (128 : Int32))] [(.int (lcmpW q1 (127 : Int64)))])) _
    refine XS.ifYes X0.here hx rfl (pc0 := 17) (pc' := 31) rfl (hb hby d14_17) rfl ((if0 _ _).trans (tlt (((lw_gt q1 (127 : Int64)).mpr pr2) : (0 : Int32) < (lcmpW q1 (127 : Int64)))).2.2.1) (by decide) (by decide) ?_
    show Steps p.tables e below (s₁.setTop (mkF m 31 #[.val (.long q1), .second, .val (.int (128 : Int32))] [])) _
    refine st2 _ ?_
    show Steps p.tables e below (T2.setTop (mkF m 34 #[.val (.long q1), .second, .val (.int (128 : Int32))] [(.ref b2)])) _
    refine XS.dup X2.here hx rfl (hb hby d14_34) rfl rfl ?_
    refine XS.lloadN X2.here hx rfl (hb hby d14_35) rfl ?_
    show Steps p.tables e below (T2.setTop (mkF m 36 #[.val (.long q1), .second, .val (.int (128 : Int32))] [(.long q1), (.ref b2), (.ref b2)])) _
    refine st3.trans ?_
    show Steps p.tables e below (T3.setTop (mkF m 39 #[.val (.long q1), .second, .val (.int (128 : Int32))] [(.ref b2)])) _
    jvm_step X3.here [X3.here.top, hx, (hb hby d14_39), X3.method', Bd.returns, Value.isRef, FieldType.isReference]
    first | (intro acts; rw [hr _ acts rfl rfl rfl]) | rw [hr _ _ rfl rfl rfl]
    exact Steps.refl _
  · show Q_rm14_1 Z q1 h0 n0 _ T3.heap _
    exact ⟨b2, rfl, N3, KK3, sz_b2, fc4, u3_0⟩
theorem d14_20 : decode jdk_35_method_24_code 20 = .ok (.getstatic 234, 3) := by decide +kernel
theorem d14_23 : decode jdk_35_method_24_code 23 = .ok (.lload_n 0, 1) := by decide +kernel
theorem d14_24 : decode jdk_35_method_24_code 24 = .ok (.l2i, 1) := by decide +kernel
theorem d14_25 : decode jdk_35_method_24_code 25 = .ok (.sipush 128, 3) := by decide +kernel
theorem d14_28 : decode jdk_35_method_24_code 28 = .ok (.iadd, 1) := by decide +kernel
theorem d14_29 : decode jdk_35_method_24_code 29 = .ok (.aaload, 1) := by decide +kernel
theorem d14_30 : decode jdk_35_method_24_code 30 = .ok (.areturn, 1) := by decide +kernel
def Q_rm14_2 (Z : State) (q1 : Int64) (w2 : Addr) (w4 : Addr) (h0 : Heap) (n0 : Nat) (v : Option Value) (h : Heap) (L : List Loc) : Prop := v = some (.ref w4) ∧ Fr n0 L ∧ h = h0
set_option maxRecDepth 65536 in
set_option maxHeartbeats 40000000 in
theorem rm14_2 (l : Launch) (Z : State) (a0 : Array Value) (hw : ∀ d ∈ tables_1, d.before a0 Z = true) (ws : List Jvm.Cond) (q1 : Int64) (w2 : Addr) (w4 : Addr) (h0 : Heap) (n0 : Nat) (OL0 : Old Z n0 h0) (pr1 : ¬ (q1 < (-128 : Int64))) (pr2 : ¬ ((127 : Int64) < q1)) (pr3 : Sta Z Z.heap "java/lang/Long$LongCache" "cache" "[Ljava/lang/Long;" (.ref w2)) (pr4 : AtC Z w2 (.object "java/lang/Long") ((q1.toInt32) + (128 : Int32)) w4) :
    MetFree l (⟨"java/lang/Long", "valueOf", "(J)Ljava/lang/Long;"⟩ : MethodName) (head1 (Jvm.Cond.code (⟨"java/lang/Long", "valueOf", "(J)Ljava/lang/Long;"⟩ : MethodName) jdk_35_method_24_code 3 (some (.object "java/lang/Long")) :: ws) ({ frames := 0, cells := 0, slots := 0, locals := 0 } : Room)) (fun a U => a = #[(.long q1)] ∧ Z.Warmed39 U.vm ∧ U.heap = h0) (fun _ _ _ _ _ => True) (fun _ U o U' => ∃ v L, o = .returned v ∧ Q_rm14_2 Z q1 w2 w4 h0 n0 v U'.heap L ∧ FrameEnd U o U' L ({ frames := 0, cells := 0, slots := 0, locals := 0 } : Room).cells ({ frames := 0, cells := 0, slots := 0, locals := 0 } : Room).slots) := by
  refine MetFree.of_bodySF (plainFor_of_name pn_7) hisR ?_
  intro p e s m args below meth c s₁ Bd hml0 hP hK
  obtain ⟨rfl, hZ, hh⟩ := hP
  have hx := Bd.exec
  have hby := Bd.bytes
  have hml : c.maxLocals = 3 := hml0
  have hown : s.vm.findClass "java/lang/Long" = some m.cls := findClass_of_methodNamed Bd.named
  have hnm := (name_of_methodNamed Bd.named Bd.method).1
  have X0 : Stand p l e ({ frames := 0, cells := 0, slots := 0, locals := 0 } : Room) s m #[(.long q1)] below meth c s₁ [] 0 0 := Stand.of_body Bd
  have e0 : s₁.heap = h0 := by rw [← hh, Bd.state]; rfl
  have N0 := Fr.nil n0
  have pre0 : ∀ t, Steps p.tables e below (s₁.setTop (mkF m 0 #[.val (.long q1), .second, .unset] [])) t → Steps p.tables e below (s₁.setTop (entryFrame m #[(.long q1)] 3)) t := fun t k => castTop (ef_14_11 m q1) k
  obtain ⟨T3, X3, e3, st3⟩ := getS2 X0 hx hZ hown (host := "") (Or.inl (wd127 hw)) Via.refl e0 (pr3.ext OL0.2) (g := (mkF m 20 #[.val (.long q1), .second, .val (.int (128 : Int32))] [])) rfl (hb hby d14_20)
  obtain ⟨cl5, Ar05, hin5, hat5⟩ := id pr4
  have Ar5 := Ar05.ext OL0.2
  obtain ⟨fs, hr, hrun, hended, hW, hsame⟩ := X3.leave (v := some (.ref w4)) (fun h => by rw [Bd.returns] at h; cases h)
  refine ⟨_, _, pre0 _ ?_, hrun, hended, _, _, rfl, ?_, ⟨_, rfl⟩, hW, hsame.mono (by decide) (by decide)⟩
  · show Steps p.tables e below (s₁.setTop (mkF m 0 #[.val (.long q1), .second, .unset] [])) _
    refine XS.sipush X0.here hx rfl (hb hby d14_0) ?_
    refine XS.istoreN X0.here hx rfl (hb hby d14_3) rfl (l' := #[.val (.long q1), .second, .val (.int (128 : Int32))]) rfl ?_
    refine XS.lloadN X0.here hx rfl (hb hby d14_4) rfl ?_
    show Steps p.tables e below (s₁.setTop (mkF m 5 #[.val (.long q1), .second, .val (.int (128 : Int32))] [(.long q1)])) _
    refine X0.ldc2Long hx hown (mvT hZ (wd108 hw)) (g := (mkF m 5 #[.val (.long q1), .second, .val (.int (128 : Int32))] [(.long q1)])) rfl (hb hby d14_5) _ ?_
    show Steps p.tables e below (s₁.setTop (mkF m 8 #[.val (.long q1), .second, .val (.int (128 : Int32))] [(.long (-128 : Int64)), (.long q1)])) _
    refine XS.lcmp X0.here hx rfl (hb hby d14_8) rfl ?_
    show Steps p.tables e below (s₁.setTop (mkF m 9 #[.val (.long q1), .second, .val (.int (128 : Int32))] [(.int (lcmpW q1 (-128 : Int64)))])) _
    refine XS.ifNo X0.here hx rfl (hb hby d14_9) rfl ((if0 _ _).trans (flt ((fun z => pr1 ((lw_lt q1 (-128 : Int64)).mp z)) : ¬ ((lcmpW q1 (-128 : Int64)) < (0 : Int32)))).1) ?_
    show Steps p.tables e below (s₁.setTop (mkF m 12 #[.val (.long q1), .second, .val (.int (128 : Int32))] [])) _
    refine XS.lloadN X0.here hx rfl (hb hby d14_12) rfl ?_
    show Steps p.tables e below (s₁.setTop (mkF m 13 #[.val (.long q1), .second, .val (.int (128 : Int32))] [(.long q1)])) _
    refine X0.ldc2Long hx hown (mvT hZ (wd126 hw)) (g := (mkF m 13 #[.val (.long q1), .second, .val (.int (128 : Int32))] [(.long q1)])) rfl (hb hby d14_13) _ ?_
    show Steps p.tables e below (s₁.setTop (mkF m 16 #[.val (.long q1), .second, .val (.int (128 : Int32))] [(.long (127 : Int64)), (.long q1)])) _
    refine XS.lcmp X0.here hx rfl (hb hby d14_16) rfl ?_
    show Steps p.tables e below (s₁.setTop (mkF m 17 #[.val (.long q1), .second, .val (.int (128 : Int32))] [(.int (lcmpW q1 (127 : Int64)))])) _
    refine XS.ifNo X0.here hx rfl (hb hby d14_17) rfl ((if0 _ _).trans (flt ((fun z => pr2 ((lw_gt q1 (127 : Int64)).mp z)) : ¬ ((0 : Int32) < (lcmpW q1 (127 : Int64))))).2.2.1) ?_
    show Steps p.tables e below (s₁.setTop (mkF m 20 #[.val (.long q1), .second, .val (.int (128 : Int32))] [])) _
    refine st3 _ ?_
    show Steps p.tables e below (T3.setTop (mkF m 23 #[.val (.long q1), .second, .val (.int (128 : Int32))] [(.ref w2)])) _
    refine XS.lloadN X3.here hx rfl (hb hby d14_23) rfl ?_
    show Steps p.tables e below (T3.setTop (mkF m 24 #[.val (.long q1), .second, .val (.int (128 : Int32))] [(.long q1), (.ref w2)])) _
    refine XS.l2i X3.here hx rfl (hb hby d14_24) rfl ?_
    show Steps p.tables e below (T3.setTop (mkF m 25 #[.val (.long q1), .second, .val (.int (128 : Int32))] [(.int (q1.toInt32)), (.ref w2)])) _
    refine XS.sipush X3.here hx rfl (hb hby d14_25) ?_
    show Steps p.tables e below (T3.setTop (mkF m 28 #[.val (.long q1), .second, .val (.int (128 : Int32))] [(.int (128 : Int32)), (.int (q1.toInt32)), (.ref w2)])) _
    refine XS.iadd X3.here hx rfl (hb hby d14_28) rfl ?_
    show Steps p.tables e below (T3.setTop (mkF m 29 #[.val (.long q1), .second, .val (.int (128 : Int32))] [(.int ((q1.toInt32) + (128 : Int32))), (.ref w2)])) _
    refine X3.aaload hx (j := ((q1.toInt32) + (128 : Int32))) (v := (.ref w4)) (by rw [e3]; exact Ar5.1) (State.isArrayOf_alike hZ.alike Ar5.2.1) rfl Ar5.2.2 hin5 hat5 (g := (mkF m 29 #[.val (.long q1), .second, .val (.int (128 : Int32))] [(.int ((q1.toInt32) + (128 : Int32))), (.ref w2)])) rfl rfl (hb hby d14_29) _ ?_
    show Steps p.tables e below (T3.setTop (mkF m 30 #[.val (.long q1), .second, .val (.int (128 : Int32))] [(.ref w4)])) _
    jvm_step X3.here [X3.here.top, hx, (hb hby d14_30), X3.method', Bd.returns, Value.isRef, FieldType.isReference]
    first | (intro acts; rw [hr _ acts rfl rfl rfl]) | rw [hr _ _ rfl rfl rfl]
    exact Steps.refl _
  · show Q_rm14_2 Z q1 w2 w4 h0 n0 _ T3.heap _
    rw [e3]
    exact ⟨rfl, N0, rfl⟩
def Q_rm4_2 (Z : State) (a1 : Addr) (w2 : Addr) (a3 : Addr) (h0 : Heap) (n0 : Nat) (v : Option Value) (h : Heap) (L : List Loc) : Prop := v = none ∧ Fr n0 L ∧ Keep h0 h [a1] ∧ Fld Z h a1 "com/example/rowforge/rowforge/Field$Constant" "value" "Ljava/lang/Object;" (.ref w2) ∧ Fld Z h a1 "com/example/rowforge/rowforge/Field$Constant" "column" "Lcom/example/rowforge/rowforge/Column;" (.ref a3)
set_option maxRecDepth 65536 in
set_option maxHeartbeats 40000000 in
theorem rm4_2 (l : Launch) (Z : State) (a0 : Array Value) (hw : ∀ d ∈ tables_1, d.before a0 Z = true) (ws : List Jvm.Cond) (a1 : Addr) (w2 : Addr) (a3 : Addr) (h0 : Heap) (n0 : Nat) (OL0 : Old Z n0 h0) (pr1 : Exa Z h0 a1 "com/example/rowforge/rowforge/Field$Constant") (pr2 : Fld Z h0 a1 "com/example/rowforge/rowforge/Field$Constant" "value" "Ljava/lang/Object;" .null) (pr3 : n0 ≤ a1) (pr4 : Fld Z h0 a1 "com/example/rowforge/rowforge/Field$Constant" "column" "Lcom/example/rowforge/rowforge/Column;" .null) :
    MetFree l (⟨"com/example/rowforge/rowforge/Field$Constant", "<init>", "(Ljava/lang/Object;Lcom/example/rowforge/rowforge/Column;)V"⟩ : MethodName) (head1 (Jvm.Cond.code (⟨"com/example/rowforge/rowforge/Field$Constant", "<init>", "(Ljava/lang/Object;Lcom/example/rowforge/rowforge/Column;)V"⟩ : MethodName) prog_10_method_1_code 3 none :: ws) ({ frames := 2, cells := 0, slots := 0, locals := 24 } : Room)) (fun a U => a = #[(.ref a1), (.ref w2), (.ref a3)] ∧ Z.Warmed39 U.vm ∧ U.heap = h0) (fun _ _ _ _ _ => True) (fun _ U o U' => ∃ v L, o = .returned v ∧ Q_rm4_2 Z a1 w2 a3 h0 n0 v U'.heap L ∧ FrameEnd U o U' L ({ frames := 2, cells := 0, slots := 0, locals := 24 } : Room).cells ({ frames := 2, cells := 0, slots := 0, locals := 24 } : Room).slots) := by
  refine MetFree.of_bodySF (plainFor_of_name pn_2) hisR ?_
  intro p e s m args below meth c s₁ Bd hml0 hP hK
  obtain ⟨rfl, hZ, hh⟩ := hP
  have hx := Bd.exec
  have hby := Bd.bytes
  have hml : c.maxLocals = 3 := hml0
  have hown : s.vm.findClass "com/example/rowforge/rowforge/Field$Constant" = some m.cls := findClass_of_methodNamed Bd.named
  have hnm := (name_of_methodNamed Bd.named Bd.method).1
  have X0 : Stand p l e ({ frames := 2, cells := 0, slots := 0, locals := 24 } : Room) s m #[(.ref a1), (.ref w2), (.ref a3)] below meth c s₁ [] 0 0 := Stand.of_body Bd
  have e0 : s₁.heap = h0 := by rw [← hh, Bd.state]; rfl
  have N0 := Fr.nil n0
  have pre0 : ∀ t, Steps p.tables e below (s₁.setTop (mkF m 0 #[.val (.ref a1), .val (.ref w2), .val (.ref a3)] [])) t → Steps p.tables e below (s₁.setTop (entryFrame m #[(.ref a1), (.ref w2), (.ref a3)] 3)) t := fun t k => castTop (ef_4_12 m a1 w2 a3) k
  obtain ⟨_, _, ⟨T4, L4, k4, n4⟩, -, X4, ⟨Lc4, hQ4, l4, y4, z4⟩, st4⟩ := X0.specialBack hx (y := (⟨"java/lang/Record", "<init>", "()V"⟩ : MethodName)) rfl hown (mvT hZ (wd44 hw)) (mvT hZ (wd19 hw)) (mvT hZ (wd22 hw)) (by decide) (backOf (W := 0) (rm2_0 l Z a0 hw [] a1 h0 n0 OL0 ) hZ (wd22 hw) (wd21 hw) (by decide) (by decide)) (g := (mkF m 1 #[.val (.ref a1), .val (.ref w2), .val (.ref a3)] [(.ref a1)])) rfl (by rw [hml]; rfl) (Steps.refl _) (a := a1) (argsL := []) (rest := []) (lenOf pd_0 rfl) rfl (by show 2 * 0 + _ ≤ _; exact Nat.le_of_eq rfl) (hb hby d4_1) (fun _ _ => ⟨rfl, e0, (by decide : 0 + 0 ≤ _), (by decide : 0 + 0 ≤ _)⟩)
  dsimp only [Pt.U, Pt.locs, Pt.cells, Pt.slots] at X4 l4 y4 z4 st4 hQ4
  subst l4 y4 z4
  obtain ⟨rfl, Nq4, ec4⟩ := hQ4
  have N4 := Fr.app N0 Nq4
  obtain ⟨T5, h5, X5, e5, W5, st5⟩ := putF X4 hx hZ hown (host := "") (Or.inl (wd45 hw)) Via.refl ec4 pr2 pr1 (Or.inr ⟨(wd46 hw), rfl, hnm⟩) (wd39 hw) (ty := (.object "java/lang/Object")) (by decide) rfl rfl (g := (mkF m 6 #[.val (.ref a1), .val (.ref w2), .val (.ref a3)] [(.ref w2), (.ref a1)])) rfl rfl (hb hby d4_6)
  have Fw5 := pr2.same W5
  have KK5 : Keep h0 h5 [a1] := (Keep.refl h0 [a1]).wr W5 (Or.inl (List.mem_of_getElem? (i := 0) rfl))
  have OL5 := OL0.wr W5 pr3
  have N5 := Fr.snoc X5 N4 pr3
  have fc6 := (pr1.wr W5)
  have fc7 := (pr4.other W5 (Or.inr (slot_ne (Or.inr (wd48 hw)) (Or.inr (wd46 hw)) (by decide) (t := (.object "com/example/rowforge/rowforge/Column")) (t' := (.object "java/lang/Object")) (by decide) (by decide))))
  obtain ⟨T8, h8, X8, e8, W8, st8⟩ := putF X5 hx hZ hown (host := "") (Or.inl (wd47 hw)) Via.refl e5 fc7 fc6 (Or.inr ⟨(wd48 hw), rfl, hnm⟩) (wd39 hw) (ty := (.object "com/example/rowforge/rowforge/Column")) (by decide) rfl rfl (g := (mkF m 11 #[.val (.ref a1), .val (.ref w2), .val (.ref a3)] [(.ref a3), (.ref a1)])) rfl rfl (hb hby d4_11)
  have Fw8 := fc7.same W8
  have KK8 : Keep h0 h8 [a1] := KK5.wr W8 (Or.inl (List.mem_of_getElem? (i := 0) rfl))
  have OL8 := OL5.wr W8 pr3
  have N8 := Fr.snoc X8 N5 pr3
  have fc9 := (Fw5.other W8 (Or.inr (slot_ne (Or.inr (wd46 hw)) (Or.inr (wd48 hw)) (by decide) (t := (.object "java/lang/Object")) (t' := (.object "com/example/rowforge/rowforge/Column")) (by decide) (by decide))))
  obtain ⟨fs, hr, hrun, hended, hW, hsame⟩ := X8.leave (v := none) (fun _ => rfl)
  refine ⟨_, _, pre0 _ ?_, hrun, hended, _, _, rfl, ?_, ⟨_, rfl⟩, hW, hsame.mono (by decide) (by decide)⟩
  · show Steps p.tables e below (s₁.setTop (mkF m 0 #[.val (.ref a1), .val (.ref w2), .val (.ref a3)] [])) _
    refine XS.aloadN X0.here hx rfl (hb hby d4_0) rfl rfl ?_
    show Steps p.tables e below (s₁.setTop (mkF m 1 #[.val (.ref a1), .val (.ref w2), .val (.ref a3)] [(.ref a1)])) _
    refine st4.trans ?_
    show Steps p.tables e below (T4.setTop (mkF m 4 #[.val (.ref a1), .val (.ref w2), .val (.ref a3)] [])) _
    refine XS.aloadN X4.here hx rfl (hb hby d4_4) rfl rfl ?_
    refine XS.aloadN X4.here hx rfl (hb hby d4_5) rfl rfl ?_
    show Steps p.tables e below (T4.setTop (mkF m 6 #[.val (.ref a1), .val (.ref w2), .val (.ref a3)] [(.ref w2), (.ref a1)])) _
    refine st5 _ ?_
    show Steps p.tables e below (T5.setTop (mkF m 9 #[.val (.ref a1), .val (.ref w2), .val (.ref a3)] [])) _
    refine XS.aloadN X5.here hx rfl (hb hby d4_9) rfl rfl ?_
    refine XS.aloadN X5.here hx rfl (hb hby d4_10) rfl rfl ?_
    show Steps p.tables e below (T5.setTop (mkF m 11 #[.val (.ref a1), .val (.ref w2), .val (.ref a3)] [(.ref a3), (.ref a1)])) _
    refine st8 _ ?_
    show Steps p.tables e below (T8.setTop (mkF m 14 #[.val (.ref a1), .val (.ref w2), .val (.ref a3)] [])) _
    exact X8.returnOut hx Bd.returns (hb hby d4_14) hr
  · show Q_rm4_2 Z a1 w2 a3 h0 n0 _ T8.heap _
    rw [e8]
    exact ⟨rfl, N8, KK8, fc9, Fw8⟩
def Q_rm8_2 (Z : State) (a1 : Addr) (w2 : Addr) (h0 : Heap) (n0 : Nat) (v : Option Value) (h : Heap) (L : List Loc) : Prop := v = some (.int (0 : Int32)) ∧ Fr n0 L ∧ h = h0
set_option maxRecDepth 65536 in
set_option maxHeartbeats 40000000 in
theorem rm8_2 (l : Launch) (Z : State) (a0 : Array Value) (hw : ∀ d ∈ tables_1, d.before a0 Z = true) (ws : List Jvm.Cond) (a1 : Addr) (w2 : Addr) (h0 : Heap) (n0 : Nat) (OL0 : Old Z n0 h0) (pr1 : Fld Z h0 a1 "com/example/rowforge/rowforge/Field$Constant" "value" "Ljava/lang/Object;" (.ref w2)) :
    MetFree l (⟨"com/example/rowforge/rowforge/Field$Constant", "nullable", "()Z"⟩ : MethodName) (head1 (Jvm.Cond.code (⟨"com/example/rowforge/rowforge/Field$Constant", "nullable", "()Z"⟩ : MethodName) prog_10_method_4_code 1 (some .boolean) :: ws) ({ frames := 0, cells := 0, slots := 0, locals := 0 } : Room)) (fun a U => a = #[(.ref a1)] ∧ Z.Warmed39 U.vm ∧ U.heap = h0) (fun _ _ _ _ _ => True) (fun _ U o U' => ∃ v L, o = .returned v ∧ Q_rm8_2 Z a1 w2 h0 n0 v U'.heap L ∧ FrameEnd U o U' L ({ frames := 0, cells := 0, slots := 0, locals := 0 } : Room).cells ({ frames := 0, cells := 0, slots := 0, locals := 0 } : Room).slots) := by
  refine MetFree.of_bodySF (plainFor_of_name pn_2) hisR ?_
  intro p e s m args below meth c s₁ Bd hml0 hP hK
  obtain ⟨rfl, hZ, hh⟩ := hP
  have hx := Bd.exec
  have hby := Bd.bytes
  have hml : c.maxLocals = 1 := hml0
  have hown : s.vm.findClass "com/example/rowforge/rowforge/Field$Constant" = some m.cls := findClass_of_methodNamed Bd.named
  have hnm := (name_of_methodNamed Bd.named Bd.method).1
  have X0 : Stand p l e ({ frames := 0, cells := 0, slots := 0, locals := 0 } : Room) s m #[(.ref a1)] below meth c s₁ [] 0 0 := Stand.of_body Bd
  have e0 : s₁.heap = h0 := by rw [← hh, Bd.state]; rfl
  have N0 := Fr.nil n0
  have pre0 : ∀ t, Steps p.tables e below (s₁.setTop (mkF m 0 #[.val (.ref a1)] [])) t → Steps p.tables e below (s₁.setTop (entryFrame m #[(.ref a1)] 1)) t := fun t k => castTop (ef_8_6 m a1) k
  obtain ⟨T3, X3, e3, st3⟩ := getF X0 hx hZ hown (host := "") (Or.inl (wd45 hw)) Via.refl e0 pr1 (g := (mkF m 1 #[.val (.ref a1)] [(.ref a1)])) rfl rfl (hb hby d8_1)
  obtain ⟨fs, hr, hrun, hended, hW, hsame⟩ := X3.leave (v := some (.int (0 : Int32))) (fun h => by rw [Bd.returns] at h; cases h)
  refine ⟨_, _, pre0 _ ?_, hrun, hended, _, _, rfl, ?_, ⟨_, rfl⟩, hW, hsame.mono (by decide) (by decide)⟩
  · show Steps p.tables e below (s₁.setTop (mkF m 0 #[.val (.ref a1)] [])) _
    refine XS.aloadN X0.here hx rfl (hb hby d8_0) rfl rfl ?_
    show Steps p.tables e below (s₁.setTop (mkF m 1 #[.val (.ref a1)] [(.ref a1)])) _
    refine st3 _ ?_
    show Steps p.tables e below (T3.setTop (mkF m 4 #[.val (.ref a1)] [(.ref w2)])) _
    refine XS.ifnonnullYes X3.here hx rfl (pc0 := 4) (pc' := 11) rfl (hb hby d8_4) rfl (by decide) (by decide) ?_
    show Steps p.tables e below (T3.setTop (mkF m 11 #[.val (.ref a1)] [])) _
    refine XS.iconst X3.here hx rfl (hb hby d8_11) ?_
    show Steps p.tables e below (T3.setTop (mkF m 12 #[.val (.ref a1)] [(.int (0 : Int32))])) _
    exact retN X3 hx (t := .boolean) Bd.returns (by simp) (hb hby d8_12) hr
  · show Q_rm8_2 Z a1 w2 h0 n0 _ T3.heap _
    rw [e3]
    exact ⟨rfl, N0, rfl⟩
def Q_rm9_2 (Z : State) (a1 : Addr) (a2 : Addr) (w3 : Addr) (h0 : Heap) (n0 : Nat) (v : Option Value) (h : Heap) (L : List Loc) : Prop := v = some (.ref w3) ∧ Fr n0 L ∧ h = h0
set_option maxRecDepth 65536 in
set_option maxHeartbeats 40000000 in
theorem rm9_2 (l : Launch) (Z : State) (a0 : Array Value) (hw : ∀ d ∈ tables_1, d.before a0 Z = true) (ws : List Jvm.Cond) (a1 : Addr) (a2 : Addr) (w3 : Addr) (h0 : Heap) (n0 : Nat) (OL0 : Old Z n0 h0) (pr1 : Fld Z h0 a1 "com/example/rowforge/rowforge/Field$Constant" "value" "Ljava/lang/Object;" (.ref w3)) :
    MetFree l (⟨"com/example/rowforge/rowforge/Field$Constant", "value", "(Ljava/util/List;)Ljava/lang/Object;"⟩ : MethodName) (head1 (Jvm.Cond.code (⟨"com/example/rowforge/rowforge/Field$Constant", "value", "(Ljava/util/List;)Ljava/lang/Object;"⟩ : MethodName) prog_10_method_5_code 2 (some (.object "java/lang/Object")) :: ws) ({ frames := 0, cells := 0, slots := 0, locals := 0 } : Room)) (fun a U => a = #[(.ref a1), (.ref a2)] ∧ Z.Warmed39 U.vm ∧ U.heap = h0) (fun _ _ _ _ _ => True) (fun _ U o U' => ∃ v L, o = .returned v ∧ Q_rm9_2 Z a1 a2 w3 h0 n0 v U'.heap L ∧ FrameEnd U o U' L ({ frames := 0, cells := 0, slots := 0, locals := 0 } : Room).cells ({ frames := 0, cells := 0, slots := 0, locals := 0 } : Room).slots) := by
  refine MetFree.of_bodySF (plainFor_of_name pn_2) hisR ?_
  intro p e s m args below meth c s₁ Bd hml0 hP hK
  obtain ⟨rfl, hZ, hh⟩ := hP
  have hx := Bd.exec
  have hby := Bd.bytes
  have hml : c.maxLocals = 2 := hml0
  have hown : s.vm.findClass "com/example/rowforge/rowforge/Field$Constant" = some m.cls := findClass_of_methodNamed Bd.named
  have hnm := (name_of_methodNamed Bd.named Bd.method).1
  have X0 : Stand p l e ({ frames := 0, cells := 0, slots := 0, locals := 0 } : Room) s m #[(.ref a1), (.ref a2)] below meth c s₁ [] 0 0 := Stand.of_body Bd
  have e0 : s₁.heap = h0 := by rw [← hh, Bd.state]; rfl
  have N0 := Fr.nil n0
  have pre0 : ∀ t, Steps p.tables e below (s₁.setTop (mkF m 0 #[.val (.ref a1), .val (.ref a2)] [])) t → Steps p.tables e below (s₁.setTop (entryFrame m #[(.ref a1), (.ref a2)] 2)) t := fun t k => castTop (ef_9_7 m a1 a2) k
  obtain ⟨T4, X4, e4, st4⟩ := getF X0 hx hZ hown (host := "") (Or.inl (wd45 hw)) Via.refl e0 pr1 (g := (mkF m 1 #[.val (.ref a1), .val (.ref a2)] [(.ref a1)])) rfl rfl (hb hby d9_1)
  obtain ⟨fs, hr, hrun, hended, hW, hsame⟩ := X4.leave (v := some (.ref w3)) (fun h => by rw [Bd.returns] at h; cases h)
  refine ⟨_, _, pre0 _ ?_, hrun, hended, _, _, rfl, ?_, ⟨_, rfl⟩, hW, hsame.mono (by decide) (by decide)⟩
  · show Steps p.tables e below (s₁.setTop (mkF m 0 #[.val (.ref a1), .val (.ref a2)] [])) _
    refine XS.aloadN X0.here hx rfl (hb hby d9_0) rfl rfl ?_
    show Steps p.tables e below (s₁.setTop (mkF m 1 #[.val (.ref a1), .val (.ref a2)] [(.ref a1)])) _
    refine st4 _ ?_
    show Steps p.tables e below (T4.setTop (mkF m 4 #[.val (.ref a1), .val (.ref a2)] [(.ref w3)])) _
    jvm_step X4.here [X4.here.top, hx, (hb hby d9_4), X4.method', Bd.returns, Value.isRef, FieldType.isReference]
    first | (intro acts; rw [hr _ acts rfl rfl rfl]) | rw [hr _ _ rfl rfl rfl]
    exact Steps.refl _
  · show Q_rm9_2 Z a1 a2 w3 h0 n0 _ T4.heap _
    rw [e4]
    exact ⟨rfl, N0, rfl⟩
theorem d10_0 : decode jdk_42_method_139_code 0 = .ok (.getstatic 38, 3) := by decide +kernel
theorem d10_3 : decode jdk_42_method_139_code 3 = .ok (.ifCond .eq 23, 3) := by decide +kernel
theorem d10_6 : decode jdk_42_method_139_code 6 = .ok (.iload_n 0, 1) := by decide +kernel
theorem d10_7 : decode jdk_42_method_139_code 7 = .ok (.invokestatic 1015, 3) := by decide +kernel
theorem d11_0 : decode jdk_43_method_3_code 0 = .ok (.iload_n 0, 1) := by decide +kernel
theorem d11_1 : decode jdk_43_method_3_code 1 = .ok (.sipush 255, 3) := by decide +kernel
theorem d11_4 : decode jdk_43_method_3_code 4 = .ok (.if_icmp .gt 7, 3) := by decide +kernel
theorem d11_7 : decode jdk_43_method_3_code 7 = .ok (.iconst 1, 1) := by decide +kernel
theorem d11_8 : decode jdk_43_method_3_code 8 = .ok (.goto 4, 3) := by decide +kernel
theorem d11_12 : decode jdk_43_method_3_code 12 = .ok (.ireturn, 1) := by decide +kernel
theorem ef_11_13 (m : MethodId) (x0 : Int32) : entryFrame m #[(.int x0)] 1 = mkF m 0 #[.val (.int x0)] [] := by first | (simp [entryFrame, mkF, argsToLocals, Value.category]; done) | rfl
theorem pn_8 : plainName "java/lang/StringLatin1" = true := by first | (simp [plainName, overriddenIn]; done) | decide +kernel
def Q_rm11_0 (Z : State) (p1 : Int32) (h0 : Heap) (n0 : Nat) (v : Option Value) (h : Heap) (L : List Loc) : Prop := v = some (.int (1 : Int32)) ∧ Fr n0 L ∧ h = h0
set_option maxRecDepth 65536 in
set_option maxHeartbeats 40000000 in
theorem rm11_0 (l : Launch) (Z : State) (a0 : Array Value) (hw : ∀ d ∈ tables_1, d.before a0 Z = true) (ws : List Jvm.Cond) (p1 : Int32) (h0 : Heap) (n0 : Nat) (OL0 : Old Z n0 h0) (pr1 : ¬ ((255 : Int32) < p1)) :
    MetFree l (⟨"java/lang/StringLatin1", "canEncode", "(C)Z"⟩ : MethodName) (head1 (Jvm.Cond.code (⟨"java/lang/StringLatin1", "canEncode", "(C)Z"⟩ : MethodName) jdk_43_method_3_code 1 (some .boolean) :: ws) ({ frames := 0, cells := 0, slots := 0, locals := 0 } : Room)) (fun a U => a = #[(.int p1)] ∧ Z.Warmed39 U.vm ∧ U.heap = h0) (fun _ _ _ _ _ => True) (fun _ U o U' => ∃ v L, o = .returned v ∧ Q_rm11_0 Z p1 h0 n0 v U'.heap L ∧ FrameEnd U o U' L ({ frames := 0, cells := 0, slots := 0, locals := 0 } : Room).cells ({ frames := 0, cells := 0, slots := 0, locals := 0 } : Room).slots) := by
  refine MetFree.of_bodySF (plainFor_of_name pn_8) hisR ?_
  intro p e s m args below meth c s₁ Bd hml0 hP hK
  obtain ⟨rfl, hZ, hh⟩ := hP
  have hx := Bd.exec
  have hby := Bd.bytes
  have hml : c.maxLocals = 1 := hml0
  have hown : s.vm.findClass "java/lang/StringLatin1" = some m.cls := findClass_of_methodNamed Bd.named
  have hnm := (name_of_methodNamed Bd.named Bd.method).1
  have X0 : Stand p l e ({ frames := 0, cells := 0, slots := 0, locals := 0 } : Room) s m #[(.int p1)] below meth c s₁ [] 0 0 := Stand.of_body Bd
  have e0 : s₁.heap = h0 := by rw [← hh, Bd.state]; rfl
  have N0 := Fr.nil n0
  have pre0 : ∀ t, Steps p.tables e below (s₁.setTop (mkF m 0 #[.val (.int p1)] [])) t → Steps p.tables e below (s₁.setTop (entryFrame m #[(.int p1)] 1)) t := fun t k => castTop (ef_11_13 m p1) k
  obtain ⟨fs, hr, hrun, hended, hW, hsame⟩ := X0.leave (v := some (.int (1 : Int32))) (fun h => by rw [Bd.returns] at h; cases h)
  refine ⟨_, _, pre0 _ ?_, hrun, hended, _, _, rfl, ?_, ⟨_, rfl⟩, hW, hsame.mono (by decide) (by decide)⟩
  · show Steps p.tables e below (s₁.setTop (mkF m 0 #[.val (.int p1)] [])) _
    refine XS.iloadN X0.here hx rfl (hb hby d11_0) rfl ?_
    refine XS.sipush X0.here hx rfl (hb hby d11_1) ?_
    show Steps p.tables e below (s₁.setTop (mkF m 4 #[.val (.int p1)] [(.int (255 : Int32)), (.int p1)])) _
    refine XS.icmpNo X0.here hx rfl (hb hby d11_4) rfl (flt pr1).2.2.1 ?_
    show Steps p.tables e below (s₁.setTop (mkF m 7 #[.val (.int p1)] [])) _
    refine XS.iconst X0.here hx rfl (hb hby d11_7) ?_
    refine XS.goto X0.here hx rfl (pc0 := 8) (pc' := 12) rfl (hb hby d11_8) (by decide) (by decide) ?_
    show Steps p.tables e below (s₁.setTop (mkF m 12 #[.val (.int p1)] [(.int (1 : Int32))])) _
    exact retN X0 hx (t := .boolean) Bd.returns (by simp) (hb hby d11_12) hr
  · show Q_rm11_0 Z p1 h0 n0 _ s₁.heap _
    rw [e0]
    exact ⟨rfl, N0, rfl⟩
theorem pd_7 : parseMethodDescriptor "(C)Z" = some ⟨[.char], some .boolean⟩ := by decide +kernel
theorem d10_10 : decode jdk_42_method_139_code 10 = .ok (.ifCond .eq 16, 3) := by decide +kernel
theorem d10_13 : decode jdk_42_method_139_code 13 = .ok (.new 10, 3) := by decide +kernel
theorem d10_16 : decode jdk_42_method_139_code 16 = .ok (.dup, 1) := by decide +kernel
theorem d10_17 : decode jdk_42_method_139_code 17 = .ok (.iload_n 0, 1) := by decide +kernel
theorem d10_18 : decode jdk_42_method_139_code 18 = .ok (.invokestatic 1018, 3) := by decide +kernel
theorem d12_0 : decode jdk_43_method_46_code 0 = .ok (.iconst 1, 1) := by decide +kernel
theorem d12_1 : decode jdk_43_method_46_code 1 = .ok (.newarray .byte, 2) := by decide +kernel
theorem d12_3 : decode jdk_43_method_46_code 3 = .ok (.dup, 1) := by decide +kernel
theorem d12_4 : decode jdk_43_method_46_code 4 = .ok (.iconst 0, 1) := by decide +kernel
theorem d12_5 : decode jdk_43_method_46_code 5 = .ok (.iload_n 0, 1) := by decide +kernel
theorem d12_6 : decode jdk_43_method_46_code 6 = .ok (.i2b, 1) := by decide +kernel
theorem d12_7 : decode jdk_43_method_46_code 7 = .ok (.bastore, 1) := by decide +kernel
theorem d12_8 : decode jdk_43_method_46_code 8 = .ok (.areturn, 1) := by decide +kernel
theorem ef_12_14 (m : MethodId) (x0 : Int32) : entryFrame m #[(.int x0)] 1 = mkF m 0 #[.val (.int x0)] [] := by first | (simp [entryFrame, mkF, argsToLocals, Value.category]; done) | rfl
def Q_rm12_0 (Z : State) (p1 : Int32) (h0 : Heap) (n0 : Nat) (v : Option Value) (h : Heap) (L : List Loc) : Prop := ∃ b2 : Addr, ∃ k2 : ClassId, v = some (.ref b2) ∧ Fr n0 L ∧ Keep h0 h [] ∧ h0.size ≤ b2 ∧ Arv Z h b2 k2 .byte (1 : Int32) [(.int ((p1.toInt8.toInt32).toInt8.toInt32))] (.int (0 : Int32))
set_option maxRecDepth 65536 in
set_option maxHeartbeats 40000000 in
theorem rm12_0 (l : Launch) (Z : State) (a0 : Array Value) (hw : ∀ d ∈ tables_1, d.before a0 Z = true) (ws : List Jvm.Cond) (p1 : Int32) (h0 : Heap) (n0 : Nat) (OL0 : Old Z n0 h0)  :
    MetFree l (⟨"java/lang/StringLatin1", "toBytes", "(C)[B"⟩ : MethodName) (head1 (Jvm.Cond.code (⟨"java/lang/StringLatin1", "toBytes", "(C)[B"⟩ : MethodName) jdk_43_method_46_code 1 (some (.array .byte)) :: ws) ({ frames := 0, cells := 1, slots := 1, locals := 0 } : Room)) (fun a U => a = #[(.int p1)] ∧ Z.Warmed39 U.vm ∧ U.heap = h0) (fun _ _ _ _ _ => True) (fun _ U o U' => ∃ v L, o = .returned v ∧ Q_rm12_0 Z p1 h0 n0 v U'.heap L ∧ FrameEnd U o U' L ({ frames := 0, cells := 1, slots := 1, locals := 0 } : Room).cells ({ frames := 0, cells := 1, slots := 1, locals := 0 } : Room).slots) := by
  refine MetFree.of_bodySF (plainFor_of_name pn_8) hisR ?_
  intro p e s m args below meth c s₁ Bd hml0 hP hK
  obtain ⟨rfl, hZ, hh⟩ := hP
  have hx := Bd.exec
  have hby := Bd.bytes
  have hml : c.maxLocals = 1 := hml0
  have hown : s.vm.findClass "java/lang/StringLatin1" = some m.cls := findClass_of_methodNamed Bd.named
  have hnm := (name_of_methodNamed Bd.named Bd.method).1
  have X0 : Stand p l e ({ frames := 0, cells := 1, slots := 1, locals := 0 } : Room) s m #[(.int p1)] below meth c s₁ [] 0 0 := Stand.of_body Bd
  have e0 : s₁.heap = h0 := by rw [← hh, Bd.state]; rfl
  have N0 := Fr.nil n0
  have pre0 : ∀ t, Steps p.tables e below (s₁.setTop (mkF m 0 #[.val (.int p1)] [])) t → Steps p.tables e below (s₁.setTop (entryFrame m #[(.int p1)] 1)) t := fun t k => castTop (ef_12_14 m p1) k
  obtain ⟨T2, h2, k2, X2, e2, E2, A2, st2⟩ := newP (aty := .byte) X0 hx hZ (wd10 hw) e0 (g := (mkF m 1 #[.val (.int p1)] [(.int (1 : Int32))])) rfl (hb hby d12_1) rfl (by decide) (cap := 1) (by decide) (by decide) (by decide) (by decide)
  obtain ⟨b2, g2⟩ : ∃ z, z = h0.size := ⟨_, rfl⟩
  rw [← g2] at A2 st2
  have V2 : Arv Z h2 b2 k2 .byte (1 : Int32) [(.int (0 : Int32))] (.int (0 : Int32)) := (Arv.new A2 (by decide)).pad (pad_rep [] (.int (0 : Int32)) 1)
  have g_b2 : n0 ≤ b2 := (Nat.le_trans (Nat.le_trans (Nat.le_of_eq OL0.1.symm) OL0.2.1) (Nat.le_of_eq g2.symm))
  have sz_b2 : h0.size ≤ b2 := (Nat.le_trans (Keep.refl h0 []).1 (Nat.le_of_eq g2.symm))
  have KK2 : Keep h0 h2 [] := (Keep.refl h0 []).ext E2
  have OL2 := OL0.ext E2
  obtain ⟨cl3, Ar3, q3, S3, M3, Hs3, G3⟩ := id V2
  have hin3 : ¬ ((0 : Int32) < 0 ∨ cl3.slots.size ≤ ((0 : Int32)).toNatClampNeg) := inb_of S3 ⟨by decide, by decide⟩
  obtain ⟨T4, h4, X4, e4, W4, st4⟩ := stB X2 hx hZ e2 Ar3 (j := (0 : Int32)) hin3 (g := (mkF m 7 #[.val (.int p1)] [(.int (p1.toInt8.toInt32)), (.int (0 : Int32)), (.ref b2), (.ref b2)])) rfl rfl (hb hby d12_7)
  have V4 : Arv Z h4 b2 k2 .byte (1 : Int32) [(.int ((p1.toInt8.toInt32).toInt8.toInt32))] (.int (0 : Int32)) := Arv.set Ar3 q3 S3 M3 Hs3 G3 (fits_nar_byte _) W4 0 rfl (Nat.le_of_ble_eq_true rfl)
  have KK4 : Keep h0 h4 [] := KK2.wr W4 (Or.inr sz_b2)
  have OL4 := OL2.wr W4 g_b2
  have N4 := Fr.snoc X4 N0 g_b2
  obtain ⟨fs, hr, hrun, hended, hW, hsame⟩ := X4.leave (v := some (.ref b2)) (fun h => by rw [Bd.returns] at h; cases h)
  refine ⟨_, _, pre0 _ ?_, hrun, hended, _, _, rfl, ?_, ⟨_, rfl⟩, hW, hsame.mono (by decide) (by decide)⟩
  · show Steps p.tables e below (s₁.setTop (mkF m 0 #[.val (.int p1)] [])) _
    refine XS.iconst X0.here hx rfl (hb hby d12_0) ?_
    show Steps p.tables e below (s₁.setTop (mkF m 1 #[.val (.int p1)] [(.int (1 : Int32))])) _
    refine st2 _ ?_
    show Steps p.tables e below (T2.setTop (mkF m 3 #[.val (.int p1)] [(.ref b2)])) _
    refine XS.dup X2.here hx rfl (hb hby d12_3) rfl rfl ?_
    refine XS.iconst X2.here hx rfl (hb hby d12_4) ?_
    refine XS.iloadN X2.here hx rfl (hb hby d12_5) rfl ?_
    show Steps p.tables e below (T2.setTop (mkF m 6 #[.val (.int p1)] [(.int p1), (.int (0 : Int32)), (.ref b2), (.ref b2)])) _
    refine XS.i2b X2.here hx rfl (hb hby d12_6) rfl ?_
    show Steps p.tables e below (T2.setTop (mkF m 7 #[.val (.int p1)] [(.int (p1.toInt8.toInt32)), (.int (0 : Int32)), (.ref b2), (.ref b2)])) _
    refine st4 _ ?_
    show Steps p.tables e below (T4.setTop (mkF m 8 #[.val (.int p1)] [(.ref b2)])) _
    jvm_step X4.here [X4.here.top, hx, (hb hby d12_8), X4.method', Bd.returns, Value.isRef, FieldType.isReference]
    first | (intro acts; rw [hr _ acts rfl rfl rfl]) | rw [hr _ _ rfl rfl rfl]
    exact Steps.refl _
  · show Q_rm12_0 Z p1 h0 n0 _ T4.heap _
    rw [e4]
    exact ⟨b2, k2, rfl, N4, KK4, sz_b2, V4⟩
theorem pd_8 : parseMethodDescriptor "(C)[B" = some ⟨[.char], some (.array .byte)⟩ := by decide +kernel
theorem d10_21 : decode jdk_42_method_139_code 21 = .ok (.iconst 0, 1) := by decide +kernel
theorem d10_22 : decode jdk_42_method_139_code 22 = .ok (.invokespecial 209, 3) := by decide +kernel
theorem d13_0 : decode jdk_42_method_151_code 0 = .ok (.aload_n 0, 1) := by decide +kernel
theorem d13_1 : decode jdk_42_method_151_code 1 = .ok (.invokespecial 1, 3) := by decide +kernel
theorem d13_4 : decode jdk_42_method_151_code 4 = .ok (.aload_n 0, 1) := by decide +kernel
theorem d13_5 : decode jdk_42_method_151_code 5 = .ok (.aload_n 1, 1) := by decide +kernel
theorem d13_6 : decode jdk_42_method_151_code 6 = .ok (.putfield 9, 3) := by decide +kernel
theorem d13_9 : decode jdk_42_method_151_code 9 = .ok (.aload_n 0, 1) := by decide +kernel
theorem d13_10 : decode jdk_42_method_151_code 10 = .ok (.iload_n 2, 1) := by decide +kernel
theorem d13_11 : decode jdk_42_method_151_code 11 = .ok (.putfield 15, 3) := by decide +kernel
theorem d13_14 : decode jdk_42_method_151_code 14 = .ok (.return_, 1) := by decide +kernel
theorem ef_13_15 (m : MethodId) (x0 : Addr) (x1 : Addr) : entryFrame m #[(.ref x0), (.ref x1), (.int (0 : Int32))] 3 = mkF m 0 #[.val (.ref x0), .val (.ref x1), .val (.int (0 : Int32))] [] := by first | (simp [entryFrame, mkF, argsToLocals, Value.category]; done) | rfl
theorem pn_9 : plainName "java/lang/String" = true := by first | (simp [plainName, overriddenIn]; done) | decide +kernel
def Q_rm13_0 (Z : State) (a1 : Addr) (a2 : Addr) (h0 : Heap) (n0 : Nat) (v : Option Value) (h : Heap) (L : List Loc) : Prop := v = none ∧ Fr n0 L ∧ Keep h0 h [a1] ∧ Fld Z h a1 "java/lang/String" "value" "[B" (.ref a2) ∧ Fld Z h a1 "java/lang/String" "coder" "B" (.int (0 : Int32))
set_option maxRecDepth 65536 in
set_option maxHeartbeats 40000000 in
theorem rm13_0 (l : Launch) (Z : State) (a0 : Array Value) (hw : ∀ d ∈ tables_1, d.before a0 Z = true) (ws : List Jvm.Cond) (a1 : Addr) (a2 : Addr) (h0 : Heap) (n0 : Nat) (OL0 : Old Z n0 h0) (pr1 : Exa Z h0 a1 "java/lang/String") (pr2 : Fld Z h0 a1 "java/lang/String" "value" "[B" .null) (pr3 : n0 ≤ a1) (pr4 : Fld Z h0 a1 "java/lang/String" "coder" "B" (.int (0 : Int32))) :
    MetFree l (⟨"java/lang/String", "<init>", "([BB)V"⟩ : MethodName) (head1 (Jvm.Cond.code (⟨"java/lang/String", "<init>", "([BB)V"⟩ : MethodName) jdk_42_method_151_code 3 none :: ws) ({ frames := 1, cells := 0, slots := 0, locals := 12 } : Room)) (fun a U => a = #[(.ref a1), (.ref a2), (.int (0 : Int32))] ∧ Z.Warmed39 U.vm ∧ U.heap = h0) (fun _ _ _ _ _ => True) (fun _ U o U' => ∃ v L, o = .returned v ∧ Q_rm13_0 Z a1 a2 h0 n0 v U'.heap L ∧ FrameEnd U o U' L ({ frames := 1, cells := 0, slots := 0, locals := 12 } : Room).cells ({ frames := 1, cells := 0, slots := 0, locals := 12 } : Room).slots) := by
  refine MetFree.of_bodySF (plainFor_of_name pn_9) hisR ?_
  intro p e s m args below meth c s₁ Bd hml0 hP hK
  obtain ⟨rfl, hZ, hh⟩ := hP
  have hx := Bd.exec
  have hby := Bd.bytes
  have hml : c.maxLocals = 3 := hml0
  have hown : s.vm.findClass "java/lang/String" = some m.cls := findClass_of_methodNamed Bd.named
  have hnm := (name_of_methodNamed Bd.named Bd.method).1
  have X0 : Stand p l e ({ frames := 1, cells := 0, slots := 0, locals := 12 } : Room) s m #[(.ref a1), (.ref a2), (.int (0 : Int32))] below meth c s₁ [] 0 0 := Stand.of_body Bd
  have e0 : s₁.heap = h0 := by rw [← hh, Bd.state]; rfl
  have N0 := Fr.nil n0
  have pre0 : ∀ t, Steps p.tables e below (s₁.setTop (mkF m 0 #[.val (.ref a1), .val (.ref a2), .val (.int (0 : Int32))] [])) t → Steps p.tables e below (s₁.setTop (entryFrame m #[(.ref a1), (.ref a2), (.int (0 : Int32))] 3)) t := fun t k => castTop (ef_13_15 m a1 a2) k
  obtain ⟨T3, X3, e3, st3⟩ := initO X0 hx hZ hown (wd101 hw) (wd24 hw) (wd25 hw) e0 (g := (mkF m 1 #[.val (.ref a1), .val (.ref a2), .val (.int (0 : Int32))] [(.ref a1)])) rfl (by rw [hml]; rfl) rfl (hb hby d13_1) (by decide) (W := 0) (by show 2 * 0 + _ ≤ _; exact Nat.le_of_eq rfl) (by decide)
  obtain ⟨T4, h4, X4, e4, W4, st4⟩ := putF X3 hx hZ hown (host := "") (Or.inl (wd102 hw)) Via.refl e3 pr2 pr1 (Or.inr ⟨(wd11 hw), rfl, hnm⟩) (wd9 hw) (ty := (.array .byte)) (by decide) rfl rfl (g := (mkF m 6 #[.val (.ref a1), .val (.ref a2), .val (.int (0 : Int32))] [(.ref a2), (.ref a1)])) rfl rfl (hb hby d13_6)
  have Fw4 := pr2.same W4
  have KK4 : Keep h0 h4 [a1] := (Keep.refl h0 [a1]).wr W4 (Or.inl (List.mem_of_getElem? (i := 0) rfl))
  have OL4 := OL0.wr W4 pr3
  have N4 := Fr.snoc X4 N0 pr3
  have fc5 := (pr1.wr W4)
  have fc6 := (pr4.other W4 (Or.inr (slot_ne (Or.inr (wd12 hw)) (Or.inr (wd11 hw)) (by decide) (t := .byte) (t' := (.array .byte)) (by decide) (by decide))))
  obtain ⟨T7, h7, X7, e7, W7, st7⟩ := putFN X4 hx hZ hown (wd103 hw) Via.refl e4 fc6 fc5 (Or.inr ⟨(wd12 hw), rfl, hnm⟩) (wd9 hw) (ty := .byte) (v' := (.int (0 : Int32))) (by decide) rfl rfl (g := (mkF m 11 #[.val (.ref a1), .val (.ref a2), .val (.int (0 : Int32))] [(.int (0 : Int32)), (.ref a1)])) rfl rfl (hb hby d13_11)
  have Fw7 := fc6.same W7
  have KK7 : Keep h0 h7 [a1] := KK4.wr W7 (Or.inl (List.mem_of_getElem? (i := 0) rfl))
  have OL7 := OL4.wr W7 pr3
  have N7 := Fr.snoc X7 N4 pr3
  have fc8 := (Fw4.other W7 (Or.inr (slot_ne (Or.inr (wd11 hw)) (Or.inr (wd12 hw)) (by decide) (t := (.array .byte)) (t' := .byte) (by decide) (by decide))))
  obtain ⟨fs, hr, hrun, hended, hW, hsame⟩ := X7.leave (v := none) (fun _ => rfl)
  refine ⟨_, _, pre0 _ ?_, hrun, hended, _, _, rfl, ?_, ⟨_, rfl⟩, hW, hsame.mono (by decide) (by decide)⟩
  · show Steps p.tables e below (s₁.setTop (mkF m 0 #[.val (.ref a1), .val (.ref a2), .val (.int (0 : Int32))] [])) _
    refine XS.aloadN X0.here hx rfl (hb hby d13_0) rfl rfl ?_
    show Steps p.tables e below (s₁.setTop (mkF m 1 #[.val (.ref a1), .val (.ref a2), .val (.int (0 : Int32))] [(.ref a1)])) _
    refine st3 _ ?_
    show Steps p.tables e below (T3.setTop (mkF m 4 #[.val (.ref a1), .val (.ref a2), .val (.int (0 : Int32))] [])) _
    refine XS.aloadN X3.here hx rfl (hb hby d13_4) rfl rfl ?_
    refine XS.aloadN X3.here hx rfl (hb hby d13_5) rfl rfl ?_
    show Steps p.tables e below (T3.setTop (mkF m 6 #[.val (.ref a1), .val (.ref a2), .val (.int (0 : Int32))] [(.ref a2), (.ref a1)])) _
    refine st4 _ ?_
    show Steps p.tables e below (T4.setTop (mkF m 9 #[.val (.ref a1), .val (.ref a2), .val (.int (0 : Int32))] [])) _
    refine XS.aloadN X4.here hx rfl (hb hby d13_9) rfl rfl ?_
    refine XS.iloadN X4.here hx rfl (hb hby d13_10) rfl ?_
    show Steps p.tables e below (T4.setTop (mkF m 11 #[.val (.ref a1), .val (.ref a2), .val (.int (0 : Int32))] [(.int (0 : Int32)), (.ref a1)])) _
    refine st7 _ ?_
    show Steps p.tables e below (T7.setTop (mkF m 14 #[.val (.ref a1), .val (.ref a2), .val (.int (0 : Int32))] [])) _
    exact X7.returnOut hx Bd.returns (hb hby d13_14) hr
  · show Q_rm13_0 Z a1 a2 h0 n0 _ T7.heap _
    rw [e7]
    exact ⟨rfl, N7, KK7, fc8, Fw7⟩
theorem pd_9 : parseMethodDescriptor "([BB)V" = some ⟨[(.array .byte), .byte], none⟩ := by decide +kernel
theorem d10_25 : decode jdk_42_method_139_code 25 = .ok (.areturn, 1) := by decide +kernel
theorem ef_10_16 (m : MethodId) (x0 : Int32) : entryFrame m #[(.int x0)] 1 = mkF m 0 #[.val (.int x0)] [] := by first | (simp [entryFrame, mkF, argsToLocals, Value.category]; done) | rfl
def Q_rm10_0 (Z : State) (p1 : Int32) (p2 : Int32) (h0 : Heap) (n0 : Nat) (v : Option Value) (h : Heap) (L : List Loc) : Prop := ∃ b5 : Addr, ∃ b6_0 : Addr, ∃ kx6_0 : ClassId, v = some (.ref b5) ∧ Fr n0 L ∧ Keep h0 h [] ∧ h0.size ≤ b5 ∧ h0.size ≤ b6_0 ∧ b5 ≠ b6_0 ∧ Exa Z h b5 "java/lang/String" ∧ Fld Z h b5 "java/lang/String" "value" "[B" (.ref b6_0) ∧ Fld Z h b5 "java/lang/String" "coder" "B" (.int (0 : Int32)) ∧ Arv Z h b6_0 kx6_0 .byte (1 : Int32) [(.int ((p1.toInt8.toInt32).toInt8.toInt32))] (.int (0 : Int32))
set_option maxRecDepth 65536 in
set_option maxHeartbeats 40000000 in
theorem rm10_0 (l : Launch) (Z : State) (a0 : Array Value) (hw : ∀ d ∈ tables_1, d.before a0 Z = true) (ws : List Jvm.Cond) (p1 : Int32) (p2 : Int32) (h0 : Heap) (n0 : Nat) (OL0 : Old Z n0 h0) (pr1 : Sta Z Z.heap "java/lang/String" "COMPACT_STRINGS" "Z" (.int p2)) (pr2 : ¬ (p2 = (0 : Int32))) (pr3 : ¬ ((255 : Int32) < p1)) :
    MetFree l (⟨"java/lang/String", "valueOf", "(C)Ljava/lang/String;"⟩ : MethodName) (head1 (Jvm.Cond.code (⟨"java/lang/String", "valueOf", "(C)Ljava/lang/String;"⟩ : MethodName) jdk_42_method_139_code 1 (some (.object "java/lang/String")) :: ws) ({ frames := 2, cells := 2, slots := 5, locals := 27 } : Room)) (fun a U => a = #[(.int p1)] ∧ Z.Warmed39 U.vm ∧ U.heap = h0) (fun _ _ _ _ _ => True) (fun _ U o U' => ∃ v L, o = .returned v ∧ Q_rm10_0 Z p1 p2 h0 n0 v U'.heap L ∧ FrameEnd U o U' L ({ frames := 2, cells := 2, slots := 5, locals := 27 } : Room).cells ({ frames := 2, cells := 2, slots := 5, locals := 27 } : Room).slots) := by
  refine MetFree.of_bodySF (plainFor_of_name pn_9) hisR ?_
  intro p e s m args below meth c s₁ Bd hml0 hP hK
  obtain ⟨rfl, hZ, hh⟩ := hP
  have hx := Bd.exec
  have hby := Bd.bytes
  have hml : c.maxLocals = 1 := hml0
  have hown : s.vm.findClass "java/lang/String" = some m.cls := findClass_of_methodNamed Bd.named
  have hnm := (name_of_methodNamed Bd.named Bd.method).1
  have X0 : Stand p l e ({ frames := 2, cells := 2, slots := 5, locals := 27 } : Room) s m #[(.int p1)] below meth c s₁ [] 0 0 := Stand.of_body Bd
  have e0 : s₁.heap = h0 := by rw [← hh, Bd.state]; rfl
  have N0 := Fr.nil n0
  have pre0 : ∀ t, Steps p.tables e below (s₁.setTop (mkF m 0 #[.val (.int p1)] [])) t → Steps p.tables e below (s₁.setTop (entryFrame m #[(.int p1)] 1)) t := fun t k => castTop (ef_10_16 m p1) k
  obtain ⟨T3, X3, e3, st3⟩ := getS2 X0 hx hZ hown (host := "") (Or.inl (wd88 hw)) Via.refl e0 (pr1.ext OL0.2) (g := (mkF m 0 #[.val (.int p1)] [])) rfl (hb hby d10_0)
  obtain ⟨_, _, ⟨T4, L4, k4, n4⟩, -, X4, ⟨Lc4, hQ4, l4, y4, z4⟩, st4⟩ := Jvm.LawKit.callS X3 hx (y := (⟨"java/lang/StringLatin1", "canEncode", "(C)Z"⟩ : MethodName)) hown (mvT hZ (wd89 hw)) (mvT hZ (wd90 hw)) (mvT hZ (wd91 hw)) (mvT hZ (wd92 hw)) (by decide) (backOf (W := 0) (rm11_0 l Z a0 hw [] p1 h0 n0 OL0 pr3) hZ (wd92 hw) (wd91 hw) (by decide) (by decide)) (g := (mkF m 7 #[.val (.int p1)] [(.int p1)])) rfl (by rw [hml]; rfl) (argsL := [(.int p1)]) (rest := []) (lenOf pd_7 rfl) rfl (by show 2 * 0 + _ ≤ _; exact Nat.le_of_eq rfl) (hb hby d10_7) (fun _ _ => ⟨rfl, e3, (by decide : 0 + 0 ≤ _), (by decide : 0 + 0 ≤ _)⟩)
  dsimp only [Pt.U, Pt.locs, Pt.cells, Pt.slots] at X4 l4 y4 z4 st4 hQ4
  subst l4 y4 z4
  obtain ⟨rfl, Nq4, ec4⟩ := hQ4
  have N4 := Fr.app N0 Nq4
  obtain ⟨T5, h5, X5, e5, E5, A5, D5, -, st5⟩ := newO X4 hx hZ hown (wd93 hw) (wd9 hw) (wd8 hw) ec4 (g := (mkF m 13 #[.val (.int p1)] [])) rfl (hb hby d10_13) (by decide) (by decide)
  obtain ⟨b5, g5⟩ : ∃ z, z = h0.size := ⟨_, rfl⟩
  rw [← g5] at A5 D5 st5
  have g_b5 : n0 ≤ b5 := (Nat.le_trans (Nat.le_trans (Nat.le_of_eq OL0.1.symm) OL0.2.1) (Nat.le_of_eq g5.symm))
  have sz_b5 : h0.size ≤ b5 := (Nat.le_trans (Keep.refl h0 []).1 (Nat.le_of_eq g5.symm))
  have KK5 : Keep h0 h5 [] := (Keep.refl h0 []).ext E5
  have OL5 := OL0.ext E5
  have F_value_b5 : Fld Z h5 b5 "java/lang/String" "value" "[B" .null := D5 (Or.inr (wd11 hw)) (ty := (.array .byte)) (by decide)
  have F_coder_b5 : Fld Z h5 b5 "java/lang/String" "coder" "B" (.int (0 : Int32)) := D5 (Or.inr (wd12 hw)) (ty := .byte) (by decide)
  obtain ⟨_, _, ⟨T6, L6, k6, n6⟩, -, X6, ⟨Lc6, hQ6, l6, y6, z6⟩, st6⟩ := Jvm.LawKit.callS X5 hx (y := (⟨"java/lang/StringLatin1", "toBytes", "(C)[B"⟩ : MethodName)) hown (mvT hZ (wd94 hw)) (mvT hZ (wd95 hw)) (mvT hZ (wd91 hw)) (mvT hZ (wd96 hw)) (by decide) (backOf (W := 2) (rm12_0 l Z a0 hw [] p1 h5 n0 OL5 ) hZ (wd96 hw) (wd91 hw) (by decide) (by decide)) (g := (mkF m 18 #[.val (.int p1)] [(.int p1), (.ref b5), (.ref b5)])) rfl (by rw [hml]; rfl) (argsL := [(.int p1)]) (rest := [(.ref b5), (.ref b5)]) (lenOf pd_8 rfl) rfl (by show 2 * 0 + _ ≤ _; exact Nat.le_of_eq rfl) (hb hby d10_18) (fun _ _ => ⟨rfl, e5, (by decide : 1 + 1 ≤ _), (by decide : 4 + 1 ≤ _)⟩)
  dsimp only [Pt.U, Pt.locs, Pt.cells, Pt.slots] at X6 l6 y6 z6 st6 hQ6
  subst l6 y6 z6
  obtain ⟨b6_0, kx6_0, rfl, Nq6, K6, u6_0, u6_1⟩ := hQ6
  have KK6 : Keep h0 T6.heap [] := KK5.trans K6 all0
  have OL6 := OL5.keep K6 all0
  have g_b6_0 : n0 ≤ b6_0 := Nat.le_trans (Nat.le_trans (Nat.le_of_eq OL5.1.symm) OL5.2.1) u6_0
  have sz_b6_0 : h0.size ≤ b6_0 := Nat.le_trans KK5.1 u6_0
  have N6 := Fr.app N4 Nq6
  have fc8 := (A5.keep K6)
  have fc9 := (F_value_b5.keep K6 nin0)
  have fc10 := (F_coder_b5.keep K6 nin0)
  obtain ⟨_, _, ⟨T7, L7, k7, n7⟩, -, X7, ⟨Lc7, hQ7, l7, y7, z7⟩, st7⟩ := X6.specialBack hx (y := (⟨"java/lang/String", "<init>", "([BB)V"⟩ : MethodName)) rfl hown (mvT hZ (wd97 hw)) (mvT hZ (wd98 hw)) (mvT hZ (wd100 hw)) (by decide) (backOf (W := 1) (rm13_0 l Z a0 hw [] b5 b6_0 T6.heap n0 OL6 fc8 fc9 g_b5 fc10) hZ (wd100 hw) (wd8 hw) (by decide) (by decide)) (g := (mkF m 22 #[.val (.int p1)] [(.int (0 : Int32)), (.ref b6_0), (.ref b5), (.ref b5)])) rfl (by rw [hml]; rfl) (Steps.refl _) (a := b5) (argsL := [(.ref b6_0), (.int (0 : Int32))]) (rest := [(.ref b5)]) (lenOf pd_9 rfl) rfl (by show 2 * 0 + _ ≤ _; exact Nat.le_of_eq rfl) (hb hby d10_22) (fun _ _ => ⟨rfl, rfl, (by decide : 2 + 0 ≤ _), (by decide : 5 + 0 ≤ _)⟩)
  dsimp only [Pt.U, Pt.locs, Pt.cells, Pt.slots] at X7 l7 y7 z7 st7 hQ7
  subst l7 y7 z7
  obtain ⟨rfl, Nq7, K7, u7_0, u7_1⟩ := hQ7
  have KK7 : Keep h0 T7.heap [] := KK6.trans K7 (allS (Or.inr sz_b5) all0)
  have OL7 := OL6.keep K7 (allS g_b5 all0)
  have N7 := Fr.app N6 Nq7
  have fc11 := (fc8.keep K7)
  have fc12 := (u6_1.keep K7 (ninS (Ne.symm (Nat.ne_of_lt (Nat.lt_of_lt_of_le F_value_b5.lt u6_0))) nin0))
  obtain ⟨fs, hr, hrun, hended, hW, hsame⟩ := X7.leave (v := some (.ref b5)) (fun h => by rw [Bd.returns] at h; cases h)
  refine ⟨_, _, pre0 _ ?_, hrun, hended, _, _, rfl, ?_, ⟨_, rfl⟩, hW, hsame.mono (by decide) (by decide)⟩
  · show Steps p.tables e below (s₁.setTop (mkF m 0 #[.val (.int p1)] [])) _
    refine st3 _ ?_
    show Steps p.tables e below (T3.setTop (mkF m 3 #[.val (.int p1)] [(.int p2)])) _
    refine XS.ifNo X3.here hx rfl (hb hby d10_3) rfl ((if0 _ _).trans (feq pr2).1) ?_
    show Steps p.tables e below (T3.setTop (mkF m 6 #[.val (.int p1)] [])) _
    refine XS.iloadN X3.here hx rfl (hb hby d10_6) rfl ?_
    show Steps p.tables e below (T3.setTop (mkF m 7 #[.val (.int p1)] [(.int p1)])) _
    refine st4 _ ?_
    show Steps p.tables e below (T4.setTop (mkF m 10 #[.val (.int p1)] [(.int (1 : Int32))])) _
    refine XS.ifNo X4.here hx rfl (hb hby d10_10) rfl ((if0 _ _).trans (feq (by decide : ¬ ((1 : Int32) = (0 : Int32)))).1) ?_
    show Steps p.tables e below (T4.setTop (mkF m 13 #[.val (.int p1)] [])) _
    refine st5 _ ?_
    show Steps p.tables e below (T5.setTop (mkF m 16 #[.val (.int p1)] [(.ref b5)])) _
    refine XS.dup X5.here hx rfl (hb hby d10_16) rfl rfl ?_
    refine XS.iloadN X5.here hx rfl (hb hby d10_17) rfl ?_
    show Steps p.tables e below (T5.setTop (mkF m 18 #[.val (.int p1)] [(.int p1), (.ref b5), (.ref b5)])) _
    refine st6 _ ?_
    show Steps p.tables e below (T6.setTop (mkF m 21 #[.val (.int p1)] [(.ref b6_0), (.ref b5), (.ref b5)])) _
    refine XS.iconst X6.here hx rfl (hb hby d10_21) ?_
    show Steps p.tables e below (T6.setTop (mkF m 22 #[.val (.int p1)] [(.int (0 : Int32)), (.ref b6_0), (.ref b5), (.ref b5)])) _
    refine st7.trans ?_
    show Steps p.tables e below (T7.setTop (mkF m 25 #[.val (.int p1)] [(.ref b5)])) _
    jvm_step X7.here [X7.here.top, hx, (hb hby d10_25), X7.method', Bd.returns, Value.isRef, FieldType.isReference]
    first | (intro acts; rw [hr _ acts rfl rfl rfl]) | rw [hr _ _ rfl rfl rfl]
    exact Steps.refl _
  · show Q_rm10_0 Z p1 p2 h0 n0 _ T7.heap _
    exact ⟨b5, b6_0, kx6_0, rfl, N7, KK7, sz_b5, sz_b6_0, (Nat.ne_of_lt (Nat.lt_of_lt_of_le F_value_b5.lt u6_0)), fc11, u7_0, u7_1, fc12⟩
theorem pd_10 : parseMethodDescriptor "(C)Ljava/lang/String;" = some ⟨[.char], some (.object "java/lang/String")⟩ := by decide +kernel
theorem ef_0 (m : MethodId) (x0 : Int32) (x1 : Int64) (x2 : Int32) (x3 : Int32) : entryFrame m #[(.int x0), (.long x1), (.int x2), (.int x3)] maxLocals = mkF m 0 #[.val (.int x0), .val (.long x1), .second, .val (.int x2), .val (.int x3), .unset, .unset, .unset, .unset, .unset, .unset, .unset, .unset] [] := by first | (simp [entryFrame, mkF, argsToLocals, Value.category, maxLocals]; done) | rfl
theorem pn_10 : plainName "com/example/rowforge/rowforge/ConstantNullablePinLaw" = true := by first | (simp [plainName, overriddenIn]; done) | decide +kernel
set_option maxRecDepth 65536 in
set_option maxHeartbeats 400000000 in
theorem rm0 (l : Launch) (Z : State) (a0 : Array Value) (hw : ∀ d ∈ tables_1, d.before a0 Z = true) (ws : List Jvm.Cond) (p1 : Int32) (p2 : Int64) (p3 : Int32) (p4 : Int32) (y1 : Int32) (y2 : Int32) (w_VARCHAR : Addr) (y3 : Int32) (w_DEFAULTCAPACITY_EMPTY_ELEMENTDATA : Addr) (w_INTEGER : Addr) (w_BIGINT : Addr) (w_cache : Addr) (y4 : Int32) (y5 : Int32) (n_COMPACT_STRINGS : Int32) (h0 : Heap) (n0 : Nat) (OL0 : Old Z n0 h0) (pr1 : (p1 &&& (2147483647 : Int32)) = y1) (pr2 : (p4 &&& (2 : Int32)) = y2) (pr3 : Sta Z Z.heap "com/example/rowforge/rowforge/SqlType" "VARCHAR" "Lcom/example/rowforge/rowforge/SqlType;" (.ref w_VARCHAR)) (pr4 : (p4 &&& (1 : Int32)) = y3) (pr5 : Sta Z Z.heap "java/util/ArrayList" "DEFAULTCAPACITY_EMPTY_ELEMENTDATA" "[Ljava/lang/Object;" (.ref w_DEFAULTCAPACITY_EMPTY_ELEMENTDATA)) (pr6 : Sta Z Z.heap "com/example/rowforge/rowforge/SqlType" "INTEGER" "Lcom/example/rowforge/rowforge/SqlType;" (.ref w_INTEGER)) (pr7 : Sta Z Z.heap "com/example/rowforge/rowforge/SqlType" "BIGINT" "Lcom/example/rowforge/rowforge/SqlType;" (.ref w_BIGINT)) (pr8 : ∃ c, Bxs Z w_cache c "java/lang/Long" "J" 256 (fun j => .long ((j - 128).toInt64))) (pr9 : Sta Z Z.heap "java/lang/Long$LongCache" "cache" "[Ljava/lang/Long;" (.ref w_cache)) (pr10 : (p3 &&& (255 : Int32)) = y4) (pr11 : (y4.toUInt32.toUInt16.toUInt32.toInt32) = y5) (pr12 : Sta Z Z.heap "java/lang/String" "COMPACT_STRINGS" "Z" (.int n_COMPACT_STRINGS)) (pr13 : ¬ (n_COMPACT_STRINGS = (0 : Int32))) (pr14 : ¬ ((255 : Int32) < y5)) :
    MetFree l x (head1 (Jvm.Cond.code x code maxLocals ret :: ws) room_1) (fun a U => a = #[(.int p1), (.long p2), (.int p3), (.int p4)] ∧ Z.Warmed39 U.vm ∧ U.heap = h0) (fun _ _ _ _ _ => True) (fun _ U o U' => ∃ v L, o = .returned v ∧ Q0 n0 v L ∧ ReturnedEndW U o U' L 24 1152) := by
  refine MetFree.of_bodySF (plainFor_of_name pn_10) hisR ?_
  intro p e s m args below meth c s₁ Bd hml0 hP hK
  obtain ⟨rfl, hZ, hh⟩ := hP
  have hx := Bd.exec
  have hby := Bd.bytes
  have hml : c.maxLocals = 13 := hml0
  have hown : s.vm.findClass "com/example/rowforge/rowforge/ConstantNullablePinLaw" = some m.cls := findClass_of_methodNamed Bd.named
  have hnm := (name_of_methodNamed Bd.named Bd.method).1
  have X0 : Stand p l e room_1 s m #[(.int p1), (.long p2), (.int p3), (.int p4)] below meth c s₁ [] 0 0 := Stand.of_body Bd
  have e0 : s₁.heap = h0 := by rw [← hh, Bd.state]; rfl
  have N0 := Fr.nil n0
  have pre0 : ∀ t, Steps p.tables e below (s₁.setTop (mkF m 0 #[.val (.int p1), .val (.long p2), .second, .val (.int p3), .val (.int p4), .unset, .unset, .unset, .unset, .unset, .unset, .unset, .unset] [])) t → Steps p.tables e below (s₁.setTop (entryFrame m #[(.int p1), (.long p2), (.int p3), (.int p4)] maxLocals)) t := fun t k => castTop (ef_0 m p1 p2 p3 p4) k
  have pre1 : ∀ t, Steps p.tables e below (s₁.setTop (mkF m 5 #[.val (.int p1), .val (.long p2), .second, .val (.int p3), .val (.int p4), .unset, .unset, .unset, .unset, .unset, .unset, .unset, .unset] [(.int (3 : Int32)), (.int y1)])) t → Steps p.tables e below (s₁.setTop (entryFrame m #[(.int p1), (.long p2), (.int p3), (.int p4)] maxLocals)) t := by
    intro t kt
    refine pre0 _ ?_
    show Steps p.tables e below (s₁.setTop (mkF m 0 #[.val (.int p1), .val (.long p2), .second, .val (.int p3), .val (.int p4), .unset, .unset, .unset, .unset, .unset, .unset, .unset, .unset] [])) _
    refine XS.iloadN X0.here hx rfl (hb hby at_0) rfl ?_
    refine X0.ldcInt hx hown (mvT hZ (wd0 hw)) (g := (mkF m 1 #[.val (.int p1), .val (.long p2), .second, .val (.int p3), .val (.int p4), .unset, .unset, .unset, .unset, .unset, .unset, .unset, .unset] [(.int p1)])) rfl (hb hby at_1) _ ?_
    show Steps p.tables e below (s₁.setTop (mkF m 3 #[.val (.int p1), .val (.long p2), .second, .val (.int p3), .val (.int p4), .unset, .unset, .unset, .unset, .unset, .unset, .unset, .unset] [(.int (2147483647 : Int32)), (.int p1)])) _
    refine XS.iand X0.here hx rfl (hb hby at_3) rfl ?_
    show Steps p.tables e below (s₁.setTop (mkF m 4 #[.val (.int p1), .val (.long p2), .second, .val (.int p3), .val (.int p4), .unset, .unset, .unset, .unset, .unset, .unset, .unset, .unset] [(.int (p1 &&& (2147483647 : Int32)))])) _
    rw [pr1]
    show Steps p.tables e below (s₁.setTop (mkF m 4 #[.val (.int p1), .val (.long p2), .second, .val (.int p3), .val (.int p4), .unset, .unset, .unset, .unset, .unset, .unset, .unset, .unset] [(.int y1)])) _
    refine XS.iconst X0.here hx rfl (hb hby at_4) ?_
    exact kt
  rcases own_mod3 p1 with hf1 | hf1 | hf1
  · rw [pr1] at hf1
    have pre2 : ∀ t, Steps p.tables e below (s₁.setTop (mkF m 20 #[.val (.int p1), .val (.long p2), .second, .val (.int p3), .val (.int p4), .val (.int (0 : Int32)), .val .null, .unset, .unset, .unset, .unset, .unset, .unset] [(.int y2)])) t → Steps p.tables e below (s₁.setTop (entryFrame m #[(.int p1), (.long p2), (.int p3), (.int p4)] maxLocals)) t := by
      intro t kt
      refine pre1 _ ?_
      show Steps p.tables e below (s₁.setTop (mkF m 5 #[.val (.int p1), .val (.long p2), .second, .val (.int p3), .val (.int p4), .unset, .unset, .unset, .unset, .unset, .unset, .unset, .unset] [(.int (3 : Int32)), (.int y1)])) _
      refine iremM X0 hx rfl (hb hby at_5) rfl (by decide) ?_
      show Steps p.tables e below (s₁.setTop (mkF m 6 #[.val (.int p1), .val (.long p2), .second, .val (.int p3), .val (.int p4), .unset, .unset, .unset, .unset, .unset, .unset, .unset, .unset] [(.int (y1 % (3 : Int32)))])) _
      rw [hf1]
      show Steps p.tables e below (s₁.setTop (mkF m 6 #[.val (.int p1), .val (.long p2), .second, .val (.int p3), .val (.int p4), .unset, .unset, .unset, .unset, .unset, .unset, .unset, .unset] [(.int (0 : Int32))])) _
      refine XS.istore X0.here hx rfl (hb hby at_6) rfl (l' := #[.val (.int p1), .val (.long p2), .second, .val (.int p3), .val (.int p4), .val (.int (0 : Int32)), .unset, .unset, .unset, .unset, .unset, .unset, .unset]) rfl ?_
      refine XS.iload X0.here hx rfl (hb hby at_8) rfl ?_
      show Steps p.tables e below (s₁.setTop (mkF m 10 #[.val (.int p1), .val (.long p2), .second, .val (.int p3), .val (.int p4), .val (.int (0 : Int32)), .unset, .unset, .unset, .unset, .unset, .unset, .unset] [(.int (0 : Int32))])) _
      refine XS.ifNo X0.here hx rfl (hb hby at_10) rfl ((if0 _ _).trans (teq (rfl : (0 : Int32) = (0 : Int32))).2) ?_
      show Steps p.tables e below (s₁.setTop (mkF m 13 #[.val (.int p1), .val (.long p2), .second, .val (.int p3), .val (.int p4), .val (.int (0 : Int32)), .unset, .unset, .unset, .unset, .unset, .unset, .unset] [])) _
      refine XS.aconstNull X0.here hx rfl (hb hby at_13) ?_
      refine XS.astore X0.here hx rfl (hb hby at_14) rfl rfl (l' := #[.val (.int p1), .val (.long p2), .second, .val (.int p3), .val (.int p4), .val (.int (0 : Int32)), .val .null, .unset, .unset, .unset, .unset, .unset, .unset]) rfl ?_
      refine XS.iload X0.here hx rfl (hb hby at_16) rfl ?_
      refine XS.iconst X0.here hx rfl (hb hby at_18) ?_
      show Steps p.tables e below (s₁.setTop (mkF m 19 #[.val (.int p1), .val (.long p2), .second, .val (.int p3), .val (.int p4), .val (.int (0 : Int32)), .val .null, .unset, .unset, .unset, .unset, .unset, .unset] [(.int (2 : Int32)), (.int p4)])) _
      refine XS.iand X0.here hx rfl (hb hby at_19) rfl ?_
      show Steps p.tables e below (s₁.setTop (mkF m 20 #[.val (.int p1), .val (.long p2), .second, .val (.int p3), .val (.int p4), .val (.int (0 : Int32)), .val .null, .unset, .unset, .unset, .unset, .unset, .unset] [(.int (p4 &&& (2 : Int32)))])) _
      rw [pr2]
      exact kt
    by_cases hf2 : y2 = (0 : Int32)
    · obtain ⟨T3, X3, e3, st3⟩ := getS2 X0 hx hZ hown (host := "") (Or.inl (wd1 hw)) Via.refl e0 (pr3.ext OL0.2) (g := (mkF m 29 #[.val (.int p1), .val (.long p2), .second, .val (.int p3), .val (.int p4), .val (.int (0 : Int32)), .val .null, .unset, .unset, .unset, .unset, .unset, .unset] [])) rfl (hb hby at_29)
      have pre4 : ∀ t, Steps p.tables e below (T3.setTop (mkF m 77 #[.val (.int p1), .val (.long p2), .second, .val (.int p3), .val (.int p4), .val (.int (0 : Int32)), .val .null, .val (.ref w_VARCHAR), .unset, .unset, .unset, .unset, .unset] [(.int y3)])) t → Steps p.tables e below (s₁.setTop (entryFrame m #[(.int p1), (.long p2), (.int p3), (.int p4)] maxLocals)) t := by
        intro t kt
        refine pre2 _ ?_
        show Steps p.tables e below (s₁.setTop (mkF m 20 #[.val (.int p1), .val (.long p2), .second, .val (.int p3), .val (.int p4), .val (.int (0 : Int32)), .val .null, .unset, .unset, .unset, .unset, .unset, .unset] [(.int y2)])) _
        refine XS.ifYes X0.here hx rfl (pc0 := 20) (pc' := 29) rfl (hb hby at_20) rfl ((if0 _ _).trans (teq hf2).1) (by decide) (by decide) ?_
        show Steps p.tables e below (s₁.setTop (mkF m 29 #[.val (.int p1), .val (.long p2), .second, .val (.int p3), .val (.int p4), .val (.int (0 : Int32)), .val .null, .unset, .unset, .unset, .unset, .unset, .unset] [])) _
        refine st3 _ ?_
        show Steps p.tables e below (T3.setTop (mkF m 32 #[.val (.int p1), .val (.long p2), .second, .val (.int p3), .val (.int p4), .val (.int (0 : Int32)), .val .null, .unset, .unset, .unset, .unset, .unset, .unset] [(.ref w_VARCHAR)])) _
        refine XS.astore X3.here hx rfl (hb hby at_32) rfl rfl (l' := #[.val (.int p1), .val (.long p2), .second, .val (.int p3), .val (.int p4), .val (.int (0 : Int32)), .val .null, .val (.ref w_VARCHAR), .unset, .unset, .unset, .unset, .unset]) rfl ?_
        refine XS.goto X3.here hx rfl (pc0 := 34) (pc' := 73) rfl (hb hby at_34) (by decide) (by decide) ?_
        refine XS.iload X3.here hx rfl (hb hby at_73) rfl ?_
        refine XS.iconst X3.here hx rfl (hb hby at_75) ?_
        show Steps p.tables e below (T3.setTop (mkF m 76 #[.val (.int p1), .val (.long p2), .second, .val (.int p3), .val (.int p4), .val (.int (0 : Int32)), .val .null, .val (.ref w_VARCHAR), .unset, .unset, .unset, .unset, .unset] [(.int (1 : Int32)), (.int p4)])) _
        refine XS.iand X3.here hx rfl (hb hby at_76) rfl ?_
        show Steps p.tables e below (T3.setTop (mkF m 77 #[.val (.int p1), .val (.long p2), .second, .val (.int p3), .val (.int p4), .val (.int (0 : Int32)), .val .null, .val (.ref w_VARCHAR), .unset, .unset, .unset, .unset, .unset] [(.int (p4 &&& (1 : Int32)))])) _
        rw [pr4]
        exact kt
      by_cases hf4 : y3 = (0 : Int32)
      · obtain ⟨T5, h5, X5, e5, E5, A5, D5, -, st5⟩ := newO X3 hx hZ hown (wd4 hw) (wd5 hw) (wd6 hw) e3 (g := (mkF m 87 #[.val (.int p1), .val (.long p2), .second, .val (.int p3), .val (.int p4), .val (.int (0 : Int32)), .val .null, .val (.ref w_VARCHAR), .val (.int (0 : Int32)), .unset, .unset, .unset, .unset] [])) rfl (hb hby at_87) (by decide) (by decide)
        obtain ⟨b5, g5⟩ : ∃ z, z = h0.size := ⟨_, rfl⟩
        rw [← g5] at A5 D5 st5
        have g_b5 : n0 ≤ b5 := (Nat.le_trans (Nat.le_trans (Nat.le_of_eq OL0.1.symm) OL0.2.1) (Nat.le_of_eq g5.symm))
        have sz_b5 : h0.size ≤ b5 := (Nat.le_trans (Keep.refl h0 []).1 (Nat.le_of_eq g5.symm))
        have KK5 : Keep h0 h5 [] := (Keep.refl h0 []).ext E5
        have OL5 := OL0.ext E5
        have F_name_b5 : Fld Z h5 b5 "com/example/rowforge/rowforge/Column" "name" "Ljava/lang/String;" .null := D5 (Or.inr (wd27 hw)) (ty := (.object "java/lang/String")) (by decide)
        have F_position_b5 : Fld Z h5 b5 "com/example/rowforge/rowforge/Column" "position" "I" (.int (0 : Int32)) := D5 (Or.inr (wd29 hw)) (ty := .int) (by decide)
        have F_type_b5 : Fld Z h5 b5 "com/example/rowforge/rowforge/Column" "type" "Lcom/example/rowforge/rowforge/SqlType;" .null := D5 (Or.inr (wd31 hw)) (ty := (.object "com/example/rowforge/rowforge/SqlType")) (by decide)
        have F_length_b5 : Fld Z h5 b5 "com/example/rowforge/rowforge/Column" "length" "I" (.int (0 : Int32)) := D5 (Or.inr (wd33 hw)) (ty := .int) (by decide)
        have F_scale_b5 : Fld Z h5 b5 "com/example/rowforge/rowforge/Column" "scale" "I" (.int (0 : Int32)) := D5 (Or.inr (wd35 hw)) (ty := .int) (by decide)
        have F_nullable_b5 : Fld Z h5 b5 "com/example/rowforge/rowforge/Column" "nullable" "Z" (.int (0 : Int32)) := D5 (Or.inr (wd37 hw)) (ty := .boolean) (by decide)
        obtain ⟨b6, T6, h6, k6, X6, e6, E6, hS6, hk6, hZ6, hown6, st6⟩ := ldcS (s := s) (vm0 := s.vm) X5 hx hZ hown (wd7 hw) (own_wS hw) e5 ((State.WarmedH.refl s).since 0) (Nat.le_trans (Nat.zero_le _) E5.1) (g := (mkF m 91 #[.val (.int p1), .val (.long p2), .second, .val (.int p3), .val (.int p4), .val (.int (0 : Int32)), .val .null, .val (.ref w_VARCHAR), .val (.int (0 : Int32)), .unset, .unset, .unset, .unset] [(.ref b5), (.ref b5)])) rfl (hb hby at_91) (n := 32) (by decide) (by decide) (by decide) (by decide)
        have KK6 : Keep h0 h6 [] := KK5.ext E6
        have OL6 := OL5.ext E6
        have fc8 := (A5.ext E6)
        have fc9 := (F_name_b5.ext E6)
        have fc10 := (F_position_b5.ext E6)
        have fc11 := (F_type_b5.ext E6)
        have fc12 := (F_length_b5.ext E6)
        have fc13 := (F_scale_b5.ext E6)
        have fc14 := (F_nullable_b5.ext E6)
        obtain ⟨_, _, ⟨T7, L7, k7, n7⟩, -, X7, ⟨Lc7, hQ7, l7, y7, z7⟩, st7⟩ := X6.specialBack hx (y := (⟨"com/example/rowforge/rowforge/Column", "<init>", "(Ljava/lang/String;ILcom/example/rowforge/rowforge/SqlType;IIZ)V"⟩ : MethodName)) rfl hown6 (mvT hZ6 (wd15 hw)) (mvT hZ6 (wd16 hw)) (mvT hZ6 (wd17 hw)) (by decide) (backOf (W := 1) (rm1_0 l Z a0 hw [] b5 b6 w_VARCHAR h6 n0 OL6 fc8 fc9 g_b5 fc10 fc11 fc12 fc13 fc14) hZ6 (wd17 hw) (wd6 hw) (by decide) (by decide)) (g := (mkF m 101 #[.val (.int p1), .val (.long p2), .second, .val (.int p3), .val (.int p4), .val (.int (0 : Int32)), .val .null, .val (.ref w_VARCHAR), .val (.int (0 : Int32)), .unset, .unset, .unset, .unset] [(.int (0 : Int32)), (.int (0 : Int32)), (.int (2147483647 : Int32)), (.ref w_VARCHAR), (.int (-1 : Int32)), (.ref b6), (.ref b5), (.ref b5)])) rfl (by rw [hml]; rfl) (Steps.refl _) (a := b5) (argsL := [(.ref b6), (.int (-1 : Int32)), (.ref w_VARCHAR), (.int (2147483647 : Int32)), (.int (0 : Int32)), (.int (0 : Int32))]) (rest := [(.ref b5)]) (lenOf pd_1 rfl) rfl (by show 2 * 0 + _ ≤ _; exact Nat.le_of_eq rfl) (hb hby at_101) (fun _ _ => ⟨rfl, e6, (by decide : 3 + 0 ≤ _), (by decide : 42 + 0 ≤ _)⟩)
        dsimp only [Pt.U, Pt.locs, Pt.cells, Pt.slots] at X7 l7 y7 z7 st7 hQ7
        subst l7 y7 z7
        obtain ⟨rfl, Nq7, K7, u7_0, u7_1, u7_2, u7_3, u7_4, u7_5⟩ := hQ7
        have KK7 : Keep h0 T7.heap [] := KK6.trans K7 (allS (Or.inr sz_b5) all0)
        have OL7 := OL6.keep K7 (allS g_b5 all0)
        have N7 := Fr.app N0 Nq7
        obtain ⟨T15, h15, X15, e15, E15, A15, D15, -, st15⟩ := newO X7 hx hZ6 hown6 (wd38 hw) (wd39 hw) (wd40 hw) rfl (g := (mkF m 106 #[.val (.int p1), .val (.long p2), .second, .val (.int p3), .val (.int p4), .val (.int (0 : Int32)), .val .null, .val (.ref w_VARCHAR), .val (.int (0 : Int32)), .val (.ref b5), .unset, .unset, .unset] [])) rfl (hb hby at_106) (by decide) (by decide)
        obtain ⟨b15, g15⟩ : ∃ z, z = T7.heap.size := ⟨_, rfl⟩
        rw [← g15] at A15 D15 st15
        have g_b15 : n0 ≤ b15 := (Nat.le_trans (Nat.le_trans (Nat.le_of_eq OL7.1.symm) OL7.2.1) (Nat.le_of_eq g15.symm))
        have sz_b15 : h0.size ≤ b15 := (Nat.le_trans KK7.1 (Nat.le_of_eq g15.symm))
        have KK15 : Keep h0 h15 [] := KK7.ext E15
        have OL15 := OL7.ext E15
        have F_value_b15 : Fld Z h15 b15 "com/example/rowforge/rowforge/Field$Constant" "value" "Ljava/lang/Object;" .null := D15 (Or.inr (wd46 hw)) (ty := (.object "java/lang/Object")) (by decide)
        have F_column_b15 : Fld Z h15 b15 "com/example/rowforge/rowforge/Field$Constant" "column" "Lcom/example/rowforge/rowforge/Column;" .null := D15 (Or.inr (wd48 hw)) (ty := (.object "com/example/rowforge/rowforge/Column")) (by decide)
        obtain ⟨_, _, ⟨T16, L16, k16, n16⟩, -, X16, ⟨Lc16, hQ16, l16, y16, z16⟩, st16⟩ := X15.specialBack hx (y := (⟨"com/example/rowforge/rowforge/Field$Constant", "<init>", "(Ljava/lang/Object;Lcom/example/rowforge/rowforge/Column;)V"⟩ : MethodName)) rfl hown6 (mvT hZ6 (wd41 hw)) (mvT hZ6 (wd42 hw)) (mvT hZ6 (wd43 hw)) (by decide) (backOf (W := 1) (rm4_0 l Z a0 hw [] b15 b5 h15 n0 OL15 A15 F_value_b15 g_b15 F_column_b15) hZ6 (wd43 hw) (wd40 hw) (by decide) (by decide)) (g := (mkF m 114 #[.val (.int p1), .val (.long p2), .second, .val (.int p3), .val (.int p4), .val (.int (0 : Int32)), .val .null, .val (.ref w_VARCHAR), .val (.int (0 : Int32)), .val (.ref b5), .unset, .unset, .unset] [(.ref b5), .null, (.ref b15), (.ref b15)])) rfl (by rw [hml]; rfl) (Steps.refl _) (a := b15) (argsL := [.null, (.ref b5)]) (rest := [(.ref b15)]) (lenOf pd_2 rfl) rfl (by show 2 * 0 + _ ≤ _; exact Nat.le_of_eq rfl) (hb hby at_114) (fun _ _ => ⟨rfl, e15, (by decide : 4 + 0 ≤ _), (by decide : 44 + 0 ≤ _)⟩)
        dsimp only [Pt.U, Pt.locs, Pt.cells, Pt.slots] at X16 l16 y16 z16 st16 hQ16
        subst l16 y16 z16
        obtain ⟨rfl, Nq16, K16, u16_0, u16_1⟩ := hQ16
        have KK16 : Keep h0 T16.heap [] := KK15.trans K16 (allS (Or.inr sz_b15) all0)
        have OL16 := OL15.keep K16 (allS g_b15 all0)
        have N16 := Fr.app N7 Nq16
        obtain ⟨T17, h17, X17, e17, E17, A17, D17, -, st17⟩ := newO X16 hx hZ6 hown6 (wd49 hw) (wd50 hw) (wd51 hw) rfl (g := (mkF m 119 #[.val (.int p1), .val (.long p2), .second, .val (.int p3), .val (.int p4), .val (.int (0 : Int32)), .val .null, .val (.ref w_VARCHAR), .val (.int (0 : Int32)), .val (.ref b5), .val (.ref b15), .unset, .unset] [])) rfl (hb hby at_119) (by decide) (by decide)
        obtain ⟨b17, g17⟩ : ∃ z, z = T16.heap.size := ⟨_, rfl⟩
        rw [← g17] at A17 D17 st17
        have g_b17 : n0 ≤ b17 := (Nat.le_trans (Nat.le_trans (Nat.le_of_eq OL16.1.symm) OL16.2.1) (Nat.le_of_eq g17.symm))
        have sz_b17 : h0.size ≤ b17 := (Nat.le_trans KK16.1 (Nat.le_of_eq g17.symm))
        have KK17 : Keep h0 h17 [] := KK16.ext E17
        have OL17 := OL16.ext E17
        have F_modCount_b17 : Fld Z h17 b17 "java/util/AbstractList" "modCount" "I" (.int (0 : Int32)) := D17 (Or.inl (wd69 hw)) (ty := .int) (by decide)
        have F_elementData_b17 : Fld Z h17 b17 "java/util/ArrayList" "elementData" "[Ljava/lang/Object;" .null := D17 (Or.inl (wd72 hw)) (ty := (.array (.object "java/lang/Object"))) (by decide)
        obtain ⟨_, _, ⟨T18, L18, k18, n18⟩, -, X18, ⟨Lc18, hQ18, l18, y18, z18⟩, st18⟩ := X17.specialBack hx (y := (⟨"java/util/ArrayList", "<init>", "()V"⟩ : MethodName)) rfl hown6 (mvT hZ6 (wd52 hw)) (mvT hZ6 (wd53 hw)) (mvT hZ6 (wd54 hw)) (by decide) (backOf (W := 1) (rm5_0 l Z a0 hw [] b17 w_DEFAULTCAPACITY_EMPTY_ELEMENTDATA h17 n0 OL17 A17 F_modCount_b17 g_b17 F_elementData_b17 pr5) hZ6 (wd54 hw) (wd51 hw) (by decide) (by decide)) (g := (mkF m 123 #[.val (.int p1), .val (.long p2), .second, .val (.int p3), .val (.int p4), .val (.int (0 : Int32)), .val .null, .val (.ref w_VARCHAR), .val (.int (0 : Int32)), .val (.ref b5), .val (.ref b15), .unset, .unset] [(.ref b17), (.ref b17)])) rfl (by rw [hml]; rfl) (Steps.refl _) (a := b17) (argsL := []) (rest := [(.ref b17)]) (lenOf pd_0 rfl) rfl (by show 2 * 0 + _ ≤ _; exact Nat.le_of_eq rfl) (hb hby at_123) (fun _ _ => ⟨rfl, e17, (by decide : 5 + 0 ≤ _), (by decide : 47 + 0 ≤ _)⟩)
        dsimp only [Pt.U, Pt.locs, Pt.cells, Pt.slots] at X18 l18 y18 z18 st18 hQ18
        subst l18 y18 z18
        obtain ⟨rfl, Nq18, K18, u18_0, u18_1⟩ := hQ18
        have KK18 : Keep h0 T18.heap [] := KK17.trans K18 (allS (Or.inr sz_b17) all0)
        have OL18 := OL17.keep K18 (allS g_b17 all0)
        have N18 := Fr.app N16 Nq18
        have fc20 := ((u16_0.ext E17).keep K18 (ninS (Nat.ne_of_lt (Nat.lt_of_lt_of_le u16_1.lt (Nat.le_of_eq g17.symm))) nin0))
        have fc21 := (((A15.keep K16).ext E17).keep K18)
        obtain ⟨cq19, kq19, q19a, q19b, q19c⟩ := isOf hZ6 rfl fc21
        obtain ⟨_, _, ⟨T19, L19, k19, n19⟩, -, X19, ⟨Lc19, hQ19, l19, y19, z19⟩, st19⟩ := X18.virtualBack hx (y := (⟨"com/example/rowforge/rowforge/Field$Constant", "nullable", "()Z"⟩ : MethodName)) (z := (⟨"com/example/rowforge/rowforge/Field$Constant", "nullable", "()Z"⟩ : MethodName)) hown6 (mvT hZ6 (wd73 hw)) (mvT hZ6 (wd74 hw)) (notFace_of_selects (args := #[]) (mvT hZ6 (wd76 hw))) (mvT hZ6 (wd76 hw)) (mvT hZ6 (wd75 hw)) (by decide) (backOf (W := 0) (rm8_0 l Z a0 hw [] b15 T18.heap n0 OL18 fc20) hZ6 (wd77 hw) (wd40 hw) (by decide) (by decide)) q19a q19c (g := (mkF m 130 #[.val (.int p1), .val (.long p2), .second, .val (.int p3), .val (.int p4), .val (.int (0 : Int32)), .val .null, .val (.ref w_VARCHAR), .val (.int (0 : Int32)), .val (.ref b5), .val (.ref b15), .val (.ref b17), .unset] [(.ref b15)])) rfl (by rw [hml]; rfl) (Steps.refl _) (argsL := []) (rest := []) (lenOf pd_3 rfl) rfl (by show 2 * 0 + _ ≤ _; exact Nat.le_of_eq rfl) (hb hby at_130) (fun _ _ => ⟨rfl, rfl, (by decide : 5 + 0 ≤ _), (by decide : 47 + 0 ≤ _)⟩)
        dsimp only [Pt.U, Pt.locs, Pt.cells, Pt.slots] at X19 l19 y19 z19 st19 hQ19
        subst l19 y19 z19
        obtain ⟨rfl, Nq19, ec19⟩ := hQ19
        have N19 := Fr.app N18 Nq19
        obtain ⟨cq22, kq22, q22a, q22b, q22c⟩ := isOf hZ6 ec19 fc21
        obtain ⟨_, _, ⟨T22, L22, k22, n22⟩, -, X22, ⟨Lc22, hQ22, l22, y22, z22⟩, st22⟩ := X19.virtualBack hx (y := (⟨"com/example/rowforge/rowforge/Field$Constant", "value", "(Ljava/util/List;)Ljava/lang/Object;"⟩ : MethodName)) (z := (⟨"com/example/rowforge/rowforge/Field$Constant", "value", "(Ljava/util/List;)Ljava/lang/Object;"⟩ : MethodName)) hown6 (mvT hZ6 (wd78 hw)) (mvT hZ6 (wd79 hw)) (notFace_of_selects (args := #[]) (mvT hZ6 (wd81 hw))) (mvT hZ6 (wd81 hw)) (mvT hZ6 (wd80 hw)) (by decide) (backOf (W := 1) (rm9_0 l Z a0 hw [] b15 b17 T18.heap n0 OL18 fc20) hZ6 (wd82 hw) (wd40 hw) (by decide) (by decide)) q22a q22c (g := (mkF m 156 #[.val (.int p1), .val (.long p2), .second, .val (.int p3), .val (.int p4), .val (.int (0 : Int32)), .val .null, .val (.ref w_VARCHAR), .val (.int (0 : Int32)), .val (.ref b5), .val (.ref b15), .val (.ref b17), .val (.int (1 : Int32))] [(.ref b17), (.ref b15), (.int (1 : Int32))])) rfl (by rw [hml]; rfl) (Steps.refl _) (argsL := [(.ref b17)]) (rest := [(.int (1 : Int32))]) (lenOf pd_4 rfl) rfl (by show 2 * 0 + _ ≤ _; exact Nat.le_of_eq rfl) (hb hby at_156) (fun _ _ => ⟨rfl, ec19, (by decide : 5 + 0 ≤ _), (by decide : 47 + 0 ≤ _)⟩)
        dsimp only [Pt.U, Pt.locs, Pt.cells, Pt.slots] at X22 l22 y22 z22 st22 hQ22
        subst l22 y22 z22
        obtain ⟨rfl, Nq22, ec22⟩ := hQ22
        have N22 := Fr.app N19 Nq22
        obtain ⟨fs, hr, hrun, hended, hRW⟩ := X22.leaveW (s := s) hS6 (by rw [ec22]; exact (Nat.le_trans (Nat.le_trans (Nat.le_trans (Nat.le_trans (Nat.le_trans hk6 K7.1) E15.1) K16.1) E17.1) K18.1)) (v := some (.int (1 : Int32))) (fun h => by rw [Bd.returns] at h; cases h)
        refine ⟨_, _, pre4 _ ?_, hrun, hended, _, _, rfl, ⟨rfl, N22⟩, hRW.1, hRW.2.1, hRW.2.2.1, hRW.2.2.2.mono (by decide) (by decide)⟩
        show Steps p.tables e below (T3.setTop (mkF m 77 #[.val (.int p1), .val (.long p2), .second, .val (.int p3), .val (.int p4), .val (.int (0 : Int32)), .val .null, .val (.ref w_VARCHAR), .unset, .unset, .unset, .unset, .unset] [(.int y3)])) _
        refine XS.ifYes X3.here hx rfl (pc0 := 77) (pc' := 84) rfl (hb hby at_77) rfl ((if0 _ _).trans (teq hf4).1) (by decide) (by decide) ?_
        show Steps p.tables e below (T3.setTop (mkF m 84 #[.val (.int p1), .val (.long p2), .second, .val (.int p3), .val (.int p4), .val (.int (0 : Int32)), .val .null, .val (.ref w_VARCHAR), .unset, .unset, .unset, .unset, .unset] [])) _
        refine XS.iconst X3.here hx rfl (hb hby at_84) ?_
        refine XS.istore X3.here hx rfl (hb hby at_85) rfl (l' := #[.val (.int p1), .val (.long p2), .second, .val (.int p3), .val (.int p4), .val (.int (0 : Int32)), .val .null, .val (.ref w_VARCHAR), .val (.int (0 : Int32)), .unset, .unset, .unset, .unset]) rfl ?_
        show Steps p.tables e below (T3.setTop (mkF m 87 #[.val (.int p1), .val (.long p2), .second, .val (.int p3), .val (.int p4), .val (.int (0 : Int32)), .val .null, .val (.ref w_VARCHAR), .val (.int (0 : Int32)), .unset, .unset, .unset, .unset] [])) _
        refine st5 _ ?_
        show Steps p.tables e below (T5.setTop (mkF m 90 #[.val (.int p1), .val (.long p2), .second, .val (.int p3), .val (.int p4), .val (.int (0 : Int32)), .val .null, .val (.ref w_VARCHAR), .val (.int (0 : Int32)), .unset, .unset, .unset, .unset] [(.ref b5)])) _
        refine XS.dup X5.here hx rfl (hb hby at_90) rfl rfl ?_
        refine st6 _ ?_
        refine XS.iconst X6.here hx rfl (hb hby at_93) ?_
        refine XS.aload X6.here hx rfl (hb hby at_94) rfl rfl ?_
        show Steps p.tables e below (T6.setTop (mkF m 96 #[.val (.int p1), .val (.long p2), .second, .val (.int p3), .val (.int p4), .val (.int (0 : Int32)), .val .null, .val (.ref w_VARCHAR), .val (.int (0 : Int32)), .unset, .unset, .unset, .unset] [(.ref w_VARCHAR), (.int (-1 : Int32)), (.ref b6), (.ref b5), (.ref b5)])) _
        refine X6.ldcInt hx hown6 (mvT hZ6 (wd0 hw)) (g := (mkF m 96 #[.val (.int p1), .val (.long p2), .second, .val (.int p3), .val (.int p4), .val (.int (0 : Int32)), .val .null, .val (.ref w_VARCHAR), .val (.int (0 : Int32)), .unset, .unset, .unset, .unset] [(.ref w_VARCHAR), (.int (-1 : Int32)), (.ref b6), (.ref b5), (.ref b5)])) rfl (hb hby at_96) _ ?_
        refine XS.iconst X6.here hx rfl (hb hby at_98) ?_
        refine XS.iload X6.here hx rfl (hb hby at_99) rfl ?_
        show Steps p.tables e below (T6.setTop (mkF m 101 #[.val (.int p1), .val (.long p2), .second, .val (.int p3), .val (.int p4), .val (.int (0 : Int32)), .val .null, .val (.ref w_VARCHAR), .val (.int (0 : Int32)), .unset, .unset, .unset, .unset] [(.int (0 : Int32)), (.int (0 : Int32)), (.int (2147483647 : Int32)), (.ref w_VARCHAR), (.int (-1 : Int32)), (.ref b6), (.ref b5), (.ref b5)])) _
        refine st7.trans ?_
        show Steps p.tables e below (T7.setTop (mkF m 104 #[.val (.int p1), .val (.long p2), .second, .val (.int p3), .val (.int p4), .val (.int (0 : Int32)), .val .null, .val (.ref w_VARCHAR), .val (.int (0 : Int32)), .unset, .unset, .unset, .unset] [(.ref b5)])) _
        refine XS.astore X7.here hx rfl (hb hby at_104) rfl rfl (l' := #[.val (.int p1), .val (.long p2), .second, .val (.int p3), .val (.int p4), .val (.int (0 : Int32)), .val .null, .val (.ref w_VARCHAR), .val (.int (0 : Int32)), .val (.ref b5), .unset, .unset, .unset]) rfl ?_
        show Steps p.tables e below (T7.setTop (mkF m 106 #[.val (.int p1), .val (.long p2), .second, .val (.int p3), .val (.int p4), .val (.int (0 : Int32)), .val .null, .val (.ref w_VARCHAR), .val (.int (0 : Int32)), .val (.ref b5), .unset, .unset, .unset] [])) _
        refine st15 _ ?_
        show Steps p.tables e below (T15.setTop (mkF m 109 #[.val (.int p1), .val (.long p2), .second, .val (.int p3), .val (.int p4), .val (.int (0 : Int32)), .val .null, .val (.ref w_VARCHAR), .val (.int (0 : Int32)), .val (.ref b5), .unset, .unset, .unset] [(.ref b15)])) _
        refine XS.dup X15.here hx rfl (hb hby at_109) rfl rfl ?_
        refine XS.aload X15.here hx rfl (hb hby at_110) rfl rfl ?_
        refine XS.aload X15.here hx rfl (hb hby at_112) rfl rfl ?_
        show Steps p.tables e below (T15.setTop (mkF m 114 #[.val (.int p1), .val (.long p2), .second, .val (.int p3), .val (.int p4), .val (.int (0 : Int32)), .val .null, .val (.ref w_VARCHAR), .val (.int (0 : Int32)), .val (.ref b5), .unset, .unset, .unset] [(.ref b5), .null, (.ref b15), (.ref b15)])) _
        refine st16.trans ?_
        show Steps p.tables e below (T16.setTop (mkF m 117 #[.val (.int p1), .val (.long p2), .second, .val (.int p3), .val (.int p4), .val (.int (0 : Int32)), .val .null, .val (.ref w_VARCHAR), .val (.int (0 : Int32)), .val (.ref b5), .unset, .unset, .unset] [(.ref b15)])) _
        refine XS.astore X16.here hx rfl (hb hby at_117) rfl rfl (l' := #[.val (.int p1), .val (.long p2), .second, .val (.int p3), .val (.int p4), .val (.int (0 : Int32)), .val .null, .val (.ref w_VARCHAR), .val (.int (0 : Int32)), .val (.ref b5), .val (.ref b15), .unset, .unset]) rfl ?_
        show Steps p.tables e below (T16.setTop (mkF m 119 #[.val (.int p1), .val (.long p2), .second, .val (.int p3), .val (.int p4), .val (.int (0 : Int32)), .val .null, .val (.ref w_VARCHAR), .val (.int (0 : Int32)), .val (.ref b5), .val (.ref b15), .unset, .unset] [])) _
        refine st17 _ ?_
        show Steps p.tables e below (T17.setTop (mkF m 122 #[.val (.int p1), .val (.long p2), .second, .val (.int p3), .val (.int p4), .val (.int (0 : Int32)), .val .null, .val (.ref w_VARCHAR), .val (.int (0 : Int32)), .val (.ref b5), .val (.ref b15), .unset, .unset] [(.ref b17)])) _
        refine XS.dup X17.here hx rfl (hb hby at_122) rfl rfl ?_
        show Steps p.tables e below (T17.setTop (mkF m 123 #[.val (.int p1), .val (.long p2), .second, .val (.int p3), .val (.int p4), .val (.int (0 : Int32)), .val .null, .val (.ref w_VARCHAR), .val (.int (0 : Int32)), .val (.ref b5), .val (.ref b15), .unset, .unset] [(.ref b17), (.ref b17)])) _
        refine st18.trans ?_
        show Steps p.tables e below (T18.setTop (mkF m 126 #[.val (.int p1), .val (.long p2), .second, .val (.int p3), .val (.int p4), .val (.int (0 : Int32)), .val .null, .val (.ref w_VARCHAR), .val (.int (0 : Int32)), .val (.ref b5), .val (.ref b15), .unset, .unset] [(.ref b17)])) _
        refine XS.astore X18.here hx rfl (hb hby at_126) rfl rfl (l' := #[.val (.int p1), .val (.long p2), .second, .val (.int p3), .val (.int p4), .val (.int (0 : Int32)), .val .null, .val (.ref w_VARCHAR), .val (.int (0 : Int32)), .val (.ref b5), .val (.ref b15), .val (.ref b17), .unset]) rfl ?_
        refine XS.aload X18.here hx rfl (hb hby at_128) rfl rfl ?_
        show Steps p.tables e below (T18.setTop (mkF m 130 #[.val (.int p1), .val (.long p2), .second, .val (.int p3), .val (.int p4), .val (.int (0 : Int32)), .val .null, .val (.ref w_VARCHAR), .val (.int (0 : Int32)), .val (.ref b5), .val (.ref b15), .val (.ref b17), .unset] [(.ref b15)])) _
        refine st19.trans ?_
        show Steps p.tables e below (T19.setTop (mkF m 133 #[.val (.int p1), .val (.long p2), .second, .val (.int p3), .val (.int p4), .val (.int (0 : Int32)), .val .null, .val (.ref w_VARCHAR), .val (.int (0 : Int32)), .val (.ref b5), .val (.ref b15), .val (.ref b17), .unset] [(.int (1 : Int32))])) _
        refine XS.istore X19.here hx rfl (hb hby at_133) rfl (l' := #[.val (.int p1), .val (.long p2), .second, .val (.int p3), .val (.int p4), .val (.int (0 : Int32)), .val .null, .val (.ref w_VARCHAR), .val (.int (0 : Int32)), .val (.ref b5), .val (.ref b15), .val (.ref b17), .val (.int (1 : Int32))]) rfl ?_
        refine XS.iload X19.here hx rfl (hb hby at_135) rfl ?_
        refine XS.iload X19.here hx rfl (hb hby at_137) rfl ?_
        show Steps p.tables e below (T19.setTop (mkF m 139 #[.val (.int p1), .val (.long p2), .second, .val (.int p3), .val (.int p4), .val (.int (0 : Int32)), .val .null, .val (.ref w_VARCHAR), .val (.int (0 : Int32)), .val (.ref b5), .val (.ref b15), .val (.ref b17), .val (.int (1 : Int32))] [(.int (0 : Int32)), (.int (1 : Int32))])) _
        refine XS.ifNo X19.here hx rfl (hb hby at_139) rfl ((if0 _ _).trans (teq (rfl : (0 : Int32) = (0 : Int32))).2) ?_
        show Steps p.tables e below (T19.setTop (mkF m 142 #[.val (.int p1), .val (.long p2), .second, .val (.int p3), .val (.int p4), .val (.int (0 : Int32)), .val .null, .val (.ref w_VARCHAR), .val (.int (0 : Int32)), .val (.ref b5), .val (.ref b15), .val (.ref b17), .val (.int (1 : Int32))] [(.int (1 : Int32))])) _
        refine XS.iconst X19.here hx rfl (hb hby at_142) ?_
        refine XS.goto X19.here hx rfl (pc0 := 143) (pc' := 147) rfl (hb hby at_143) (by decide) (by decide) ?_
        show Steps p.tables e below (T19.setTop (mkF m 147 #[.val (.int p1), .val (.long p2), .second, .val (.int p3), .val (.int p4), .val (.int (0 : Int32)), .val .null, .val (.ref w_VARCHAR), .val (.int (0 : Int32)), .val (.ref b5), .val (.ref b15), .val (.ref b17), .val (.int (1 : Int32))] [(.int (1 : Int32)), (.int (1 : Int32))])) _
        refine XS.icmpNo X19.here hx rfl (hb hby at_147) rfl (teq (rfl : (1 : Int32) = (1 : Int32))).2 ?_
        show Steps p.tables e below (T19.setTop (mkF m 150 #[.val (.int p1), .val (.long p2), .second, .val (.int p3), .val (.int p4), .val (.int (0 : Int32)), .val .null, .val (.ref w_VARCHAR), .val (.int (0 : Int32)), .val (.ref b5), .val (.ref b15), .val (.ref b17), .val (.int (1 : Int32))] [])) _
        refine XS.iload X19.here hx rfl (hb hby at_150) rfl ?_
        refine XS.aload X19.here hx rfl (hb hby at_152) rfl rfl ?_
        refine XS.aload X19.here hx rfl (hb hby at_154) rfl rfl ?_
        show Steps p.tables e below (T19.setTop (mkF m 156 #[.val (.int p1), .val (.long p2), .second, .val (.int p3), .val (.int p4), .val (.int (0 : Int32)), .val .null, .val (.ref w_VARCHAR), .val (.int (0 : Int32)), .val (.ref b5), .val (.ref b15), .val (.ref b17), .val (.int (1 : Int32))] [(.ref b17), (.ref b15), (.int (1 : Int32))])) _
        refine st22.trans ?_
        show Steps p.tables e below (T22.setTop (mkF m 159 #[.val (.int p1), .val (.long p2), .second, .val (.int p3), .val (.int p4), .val (.int (0 : Int32)), .val .null, .val (.ref w_VARCHAR), .val (.int (0 : Int32)), .val (.ref b5), .val (.ref b15), .val (.ref b17), .val (.int (1 : Int32))] [.null, (.int (1 : Int32))])) _
        refine XS.ifnonnullNo X22.here hx rfl (hb hby at_159) rfl ?_
        show Steps p.tables e below (T22.setTop (mkF m 162 #[.val (.int p1), .val (.long p2), .second, .val (.int p3), .val (.int p4), .val (.int (0 : Int32)), .val .null, .val (.ref w_VARCHAR), .val (.int (0 : Int32)), .val (.ref b5), .val (.ref b15), .val (.ref b17), .val (.int (1 : Int32))] [(.int (1 : Int32))])) _
        refine XS.iconst X22.here hx rfl (hb hby at_162) ?_
        refine XS.goto X22.here hx rfl (pc0 := 163) (pc' := 167) rfl (hb hby at_163) (by decide) (by decide) ?_
        show Steps p.tables e below (T22.setTop (mkF m 167 #[.val (.int p1), .val (.long p2), .second, .val (.int p3), .val (.int p4), .val (.int (0 : Int32)), .val .null, .val (.ref w_VARCHAR), .val (.int (0 : Int32)), .val (.ref b5), .val (.ref b15), .val (.ref b17), .val (.int (1 : Int32))] [(.int (1 : Int32)), (.int (1 : Int32))])) _
        refine XS.icmpNo X22.here hx rfl (hb hby at_167) rfl (teq (rfl : (1 : Int32) = (1 : Int32))).2 ?_
        show Steps p.tables e below (T22.setTop (mkF m 170 #[.val (.int p1), .val (.long p2), .second, .val (.int p3), .val (.int p4), .val (.int (0 : Int32)), .val .null, .val (.ref w_VARCHAR), .val (.int (0 : Int32)), .val (.ref b5), .val (.ref b15), .val (.ref b17), .val (.int (1 : Int32))] [])) _
        refine XS.iconst X22.here hx rfl (hb hby at_170) ?_
        refine XS.goto X22.here hx rfl (pc0 := 171) (pc' := 175) rfl (hb hby at_171) (by decide) (by decide) ?_
        show Steps p.tables e below (T22.setTop (mkF m 175 #[.val (.int p1), .val (.long p2), .second, .val (.int p3), .val (.int p4), .val (.int (0 : Int32)), .val .null, .val (.ref w_VARCHAR), .val (.int (0 : Int32)), .val (.ref b5), .val (.ref b15), .val (.ref b17), .val (.int (1 : Int32))] [(.int (1 : Int32))])) _
        exact retN X22 hx (t := .boolean) Bd.returns (by simp) (hb hby at_175) hr
      · obtain ⟨T23, h23, X23, e23, E23, A23, D23, -, st23⟩ := newO X3 hx hZ hown (wd4 hw) (wd5 hw) (wd6 hw) e3 (g := (mkF m 87 #[.val (.int p1), .val (.long p2), .second, .val (.int p3), .val (.int p4), .val (.int (0 : Int32)), .val .null, .val (.ref w_VARCHAR), .val (.int (1 : Int32)), .unset, .unset, .unset, .unset] [])) rfl (hb hby at_87) (by decide) (by decide)
        obtain ⟨b23, g23⟩ : ∃ z, z = h0.size := ⟨_, rfl⟩
        rw [← g23] at A23 D23 st23
        have g_b23 : n0 ≤ b23 := (Nat.le_trans (Nat.le_trans (Nat.le_of_eq OL0.1.symm) OL0.2.1) (Nat.le_of_eq g23.symm))
        have sz_b23 : h0.size ≤ b23 := (Nat.le_trans (Keep.refl h0 []).1 (Nat.le_of_eq g23.symm))
        have KK23 : Keep h0 h23 [] := (Keep.refl h0 []).ext E23
        have OL23 := OL0.ext E23
        have F_name_b23 : Fld Z h23 b23 "com/example/rowforge/rowforge/Column" "name" "Ljava/lang/String;" .null := D23 (Or.inr (wd27 hw)) (ty := (.object "java/lang/String")) (by decide)
        have F_position_b23 : Fld Z h23 b23 "com/example/rowforge/rowforge/Column" "position" "I" (.int (0 : Int32)) := D23 (Or.inr (wd29 hw)) (ty := .int) (by decide)
        have F_type_b23 : Fld Z h23 b23 "com/example/rowforge/rowforge/Column" "type" "Lcom/example/rowforge/rowforge/SqlType;" .null := D23 (Or.inr (wd31 hw)) (ty := (.object "com/example/rowforge/rowforge/SqlType")) (by decide)
        have F_length_b23 : Fld Z h23 b23 "com/example/rowforge/rowforge/Column" "length" "I" (.int (0 : Int32)) := D23 (Or.inr (wd33 hw)) (ty := .int) (by decide)
        have F_scale_b23 : Fld Z h23 b23 "com/example/rowforge/rowforge/Column" "scale" "I" (.int (0 : Int32)) := D23 (Or.inr (wd35 hw)) (ty := .int) (by decide)
        have F_nullable_b23 : Fld Z h23 b23 "com/example/rowforge/rowforge/Column" "nullable" "Z" (.int (0 : Int32)) := D23 (Or.inr (wd37 hw)) (ty := .boolean) (by decide)
        obtain ⟨b24, T24, h24, k24, X24, e24, E24, hS24, hk24, hZ24, hown24, st24⟩ := ldcS (s := s) (vm0 := s.vm) X23 hx hZ hown (wd7 hw) (own_wS hw) e23 ((State.WarmedH.refl s).since 0) (Nat.le_trans (Nat.zero_le _) E23.1) (g := (mkF m 91 #[.val (.int p1), .val (.long p2), .second, .val (.int p3), .val (.int p4), .val (.int (0 : Int32)), .val .null, .val (.ref w_VARCHAR), .val (.int (1 : Int32)), .unset, .unset, .unset, .unset] [(.ref b23), (.ref b23)])) rfl (hb hby at_91) (n := 32) (by decide) (by decide) (by decide) (by decide)
        have KK24 : Keep h0 h24 [] := KK23.ext E24
        have OL24 := OL23.ext E24
        have fc26 := (A23.ext E24)
        have fc27 := (F_name_b23.ext E24)
        have fc28 := (F_position_b23.ext E24)
        have fc29 := (F_type_b23.ext E24)
        have fc30 := (F_length_b23.ext E24)
        have fc31 := (F_scale_b23.ext E24)
        have fc32 := (F_nullable_b23.ext E24)
        obtain ⟨_, _, ⟨T25, L25, k25, n25⟩, -, X25, ⟨Lc25, hQ25, l25, y25, z25⟩, st25⟩ := X24.specialBack hx (y := (⟨"com/example/rowforge/rowforge/Column", "<init>", "(Ljava/lang/String;ILcom/example/rowforge/rowforge/SqlType;IIZ)V"⟩ : MethodName)) rfl hown24 (mvT hZ24 (wd15 hw)) (mvT hZ24 (wd16 hw)) (mvT hZ24 (wd17 hw)) (by decide) (backOf (W := 1) (rm1_1 l Z a0 hw [] b23 b24 w_VARCHAR h24 n0 OL24 fc26 fc27 g_b23 fc28 fc29 fc30 fc31 fc32) hZ24 (wd17 hw) (wd6 hw) (by decide) (by decide)) (g := (mkF m 101 #[.val (.int p1), .val (.long p2), .second, .val (.int p3), .val (.int p4), .val (.int (0 : Int32)), .val .null, .val (.ref w_VARCHAR), .val (.int (1 : Int32)), .unset, .unset, .unset, .unset] [(.int (1 : Int32)), (.int (0 : Int32)), (.int (2147483647 : Int32)), (.ref w_VARCHAR), (.int (-1 : Int32)), (.ref b24), (.ref b23), (.ref b23)])) rfl (by rw [hml]; rfl) (Steps.refl _) (a := b23) (argsL := [(.ref b24), (.int (-1 : Int32)), (.ref w_VARCHAR), (.int (2147483647 : Int32)), (.int (0 : Int32)), (.int (1 : Int32))]) (rest := [(.ref b23)]) (lenOf pd_1 rfl) rfl (by show 2 * 0 + _ ≤ _; exact Nat.le_of_eq rfl) (hb hby at_101) (fun _ _ => ⟨rfl, e24, (by decide : 3 + 0 ≤ _), (by decide : 42 + 0 ≤ _)⟩)
        dsimp only [Pt.U, Pt.locs, Pt.cells, Pt.slots] at X25 l25 y25 z25 st25 hQ25
        subst l25 y25 z25
        obtain ⟨rfl, Nq25, K25, u25_0, u25_1, u25_2, u25_3, u25_4, u25_5⟩ := hQ25
        have KK25 : Keep h0 T25.heap [] := KK24.trans K25 (allS (Or.inr sz_b23) all0)
        have OL25 := OL24.keep K25 (allS g_b23 all0)
        have N25 := Fr.app N0 Nq25
        obtain ⟨T33, h33, X33, e33, E33, A33, D33, -, st33⟩ := newO X25 hx hZ24 hown24 (wd38 hw) (wd39 hw) (wd40 hw) rfl (g := (mkF m 106 #[.val (.int p1), .val (.long p2), .second, .val (.int p3), .val (.int p4), .val (.int (0 : Int32)), .val .null, .val (.ref w_VARCHAR), .val (.int (1 : Int32)), .val (.ref b23), .unset, .unset, .unset] [])) rfl (hb hby at_106) (by decide) (by decide)
        obtain ⟨b33, g33⟩ : ∃ z, z = T25.heap.size := ⟨_, rfl⟩
        rw [← g33] at A33 D33 st33
        have g_b33 : n0 ≤ b33 := (Nat.le_trans (Nat.le_trans (Nat.le_of_eq OL25.1.symm) OL25.2.1) (Nat.le_of_eq g33.symm))
        have sz_b33 : h0.size ≤ b33 := (Nat.le_trans KK25.1 (Nat.le_of_eq g33.symm))
        have KK33 : Keep h0 h33 [] := KK25.ext E33
        have OL33 := OL25.ext E33
        have F_value_b33 : Fld Z h33 b33 "com/example/rowforge/rowforge/Field$Constant" "value" "Ljava/lang/Object;" .null := D33 (Or.inr (wd46 hw)) (ty := (.object "java/lang/Object")) (by decide)
        have F_column_b33 : Fld Z h33 b33 "com/example/rowforge/rowforge/Field$Constant" "column" "Lcom/example/rowforge/rowforge/Column;" .null := D33 (Or.inr (wd48 hw)) (ty := (.object "com/example/rowforge/rowforge/Column")) (by decide)
        obtain ⟨_, _, ⟨T34, L34, k34, n34⟩, -, X34, ⟨Lc34, hQ34, l34, y34, z34⟩, st34⟩ := X33.specialBack hx (y := (⟨"com/example/rowforge/rowforge/Field$Constant", "<init>", "(Ljava/lang/Object;Lcom/example/rowforge/rowforge/Column;)V"⟩ : MethodName)) rfl hown24 (mvT hZ24 (wd41 hw)) (mvT hZ24 (wd42 hw)) (mvT hZ24 (wd43 hw)) (by decide) (backOf (W := 1) (rm4_0 l Z a0 hw [] b33 b23 h33 n0 OL33 A33 F_value_b33 g_b33 F_column_b33) hZ24 (wd43 hw) (wd40 hw) (by decide) (by decide)) (g := (mkF m 114 #[.val (.int p1), .val (.long p2), .second, .val (.int p3), .val (.int p4), .val (.int (0 : Int32)), .val .null, .val (.ref w_VARCHAR), .val (.int (1 : Int32)), .val (.ref b23), .unset, .unset, .unset] [(.ref b23), .null, (.ref b33), (.ref b33)])) rfl (by rw [hml]; rfl) (Steps.refl _) (a := b33) (argsL := [.null, (.ref b23)]) (rest := [(.ref b33)]) (lenOf pd_2 rfl) rfl (by show 2 * 0 + _ ≤ _; exact Nat.le_of_eq rfl) (hb hby at_114) (fun _ _ => ⟨rfl, e33, (by decide : 4 + 0 ≤ _), (by decide : 44 + 0 ≤ _)⟩)
        dsimp only [Pt.U, Pt.locs, Pt.cells, Pt.slots] at X34 l34 y34 z34 st34 hQ34
        subst l34 y34 z34
        obtain ⟨rfl, Nq34, K34, u34_0, u34_1⟩ := hQ34
        have KK34 : Keep h0 T34.heap [] := KK33.trans K34 (allS (Or.inr sz_b33) all0)
        have OL34 := OL33.keep K34 (allS g_b33 all0)
        have N34 := Fr.app N25 Nq34
        obtain ⟨T35, h35, X35, e35, E35, A35, D35, -, st35⟩ := newO X34 hx hZ24 hown24 (wd49 hw) (wd50 hw) (wd51 hw) rfl (g := (mkF m 119 #[.val (.int p1), .val (.long p2), .second, .val (.int p3), .val (.int p4), .val (.int (0 : Int32)), .val .null, .val (.ref w_VARCHAR), .val (.int (1 : Int32)), .val (.ref b23), .val (.ref b33), .unset, .unset] [])) rfl (hb hby at_119) (by decide) (by decide)
        obtain ⟨b35, g35⟩ : ∃ z, z = T34.heap.size := ⟨_, rfl⟩
        rw [← g35] at A35 D35 st35
        have g_b35 : n0 ≤ b35 := (Nat.le_trans (Nat.le_trans (Nat.le_of_eq OL34.1.symm) OL34.2.1) (Nat.le_of_eq g35.symm))
        have sz_b35 : h0.size ≤ b35 := (Nat.le_trans KK34.1 (Nat.le_of_eq g35.symm))
        have KK35 : Keep h0 h35 [] := KK34.ext E35
        have OL35 := OL34.ext E35
        have F_modCount_b35 : Fld Z h35 b35 "java/util/AbstractList" "modCount" "I" (.int (0 : Int32)) := D35 (Or.inl (wd69 hw)) (ty := .int) (by decide)
        have F_elementData_b35 : Fld Z h35 b35 "java/util/ArrayList" "elementData" "[Ljava/lang/Object;" .null := D35 (Or.inl (wd72 hw)) (ty := (.array (.object "java/lang/Object"))) (by decide)
        obtain ⟨_, _, ⟨T36, L36, k36, n36⟩, -, X36, ⟨Lc36, hQ36, l36, y36, z36⟩, st36⟩ := X35.specialBack hx (y := (⟨"java/util/ArrayList", "<init>", "()V"⟩ : MethodName)) rfl hown24 (mvT hZ24 (wd52 hw)) (mvT hZ24 (wd53 hw)) (mvT hZ24 (wd54 hw)) (by decide) (backOf (W := 1) (rm5_0 l Z a0 hw [] b35 w_DEFAULTCAPACITY_EMPTY_ELEMENTDATA h35 n0 OL35 A35 F_modCount_b35 g_b35 F_elementData_b35 pr5) hZ24 (wd54 hw) (wd51 hw) (by decide) (by decide)) (g := (mkF m 123 #[.val (.int p1), .val (.long p2), .second, .val (.int p3), .val (.int p4), .val (.int (0 : Int32)), .val .null, .val (.ref w_VARCHAR), .val (.int (1 : Int32)), .val (.ref b23), .val (.ref b33), .unset, .unset] [(.ref b35), (.ref b35)])) rfl (by rw [hml]; rfl) (Steps.refl _) (a := b35) (argsL := []) (rest := [(.ref b35)]) (lenOf pd_0 rfl) rfl (by show 2 * 0 + _ ≤ _; exact Nat.le_of_eq rfl) (hb hby at_123) (fun _ _ => ⟨rfl, e35, (by decide : 5 + 0 ≤ _), (by decide : 47 + 0 ≤ _)⟩)
        dsimp only [Pt.U, Pt.locs, Pt.cells, Pt.slots] at X36 l36 y36 z36 st36 hQ36
        subst l36 y36 z36
        obtain ⟨rfl, Nq36, K36, u36_0, u36_1⟩ := hQ36
        have KK36 : Keep h0 T36.heap [] := KK35.trans K36 (allS (Or.inr sz_b35) all0)
        have OL36 := OL35.keep K36 (allS g_b35 all0)
        have N36 := Fr.app N34 Nq36
        have fc38 := ((u34_0.ext E35).keep K36 (ninS (Nat.ne_of_lt (Nat.lt_of_lt_of_le u34_1.lt (Nat.le_of_eq g35.symm))) nin0))
        have fc39 := (((A33.keep K34).ext E35).keep K36)
        obtain ⟨cq37, kq37, q37a, q37b, q37c⟩ := isOf hZ24 rfl fc39
        obtain ⟨_, _, ⟨T37, L37, k37, n37⟩, -, X37, ⟨Lc37, hQ37, l37, y37, z37⟩, st37⟩ := X36.virtualBack hx (y := (⟨"com/example/rowforge/rowforge/Field$Constant", "nullable", "()Z"⟩ : MethodName)) (z := (⟨"com/example/rowforge/rowforge/Field$Constant", "nullable", "()Z"⟩ : MethodName)) hown24 (mvT hZ24 (wd73 hw)) (mvT hZ24 (wd74 hw)) (notFace_of_selects (args := #[]) (mvT hZ24 (wd76 hw))) (mvT hZ24 (wd76 hw)) (mvT hZ24 (wd75 hw)) (by decide) (backOf (W := 0) (rm8_0 l Z a0 hw [] b33 T36.heap n0 OL36 fc38) hZ24 (wd77 hw) (wd40 hw) (by decide) (by decide)) q37a q37c (g := (mkF m 130 #[.val (.int p1), .val (.long p2), .second, .val (.int p3), .val (.int p4), .val (.int (0 : Int32)), .val .null, .val (.ref w_VARCHAR), .val (.int (1 : Int32)), .val (.ref b23), .val (.ref b33), .val (.ref b35), .unset] [(.ref b33)])) rfl (by rw [hml]; rfl) (Steps.refl _) (argsL := []) (rest := []) (lenOf pd_3 rfl) rfl (by show 2 * 0 + _ ≤ _; exact Nat.le_of_eq rfl) (hb hby at_130) (fun _ _ => ⟨rfl, rfl, (by decide : 5 + 0 ≤ _), (by decide : 47 + 0 ≤ _)⟩)
        dsimp only [Pt.U, Pt.locs, Pt.cells, Pt.slots] at X37 l37 y37 z37 st37 hQ37
        subst l37 y37 z37
        obtain ⟨rfl, Nq37, ec37⟩ := hQ37
        have N37 := Fr.app N36 Nq37
        obtain ⟨cq40, kq40, q40a, q40b, q40c⟩ := isOf hZ24 ec37 fc39
        obtain ⟨_, _, ⟨T40, L40, k40, n40⟩, -, X40, ⟨Lc40, hQ40, l40, y40, z40⟩, st40⟩ := X37.virtualBack hx (y := (⟨"com/example/rowforge/rowforge/Field$Constant", "value", "(Ljava/util/List;)Ljava/lang/Object;"⟩ : MethodName)) (z := (⟨"com/example/rowforge/rowforge/Field$Constant", "value", "(Ljava/util/List;)Ljava/lang/Object;"⟩ : MethodName)) hown24 (mvT hZ24 (wd78 hw)) (mvT hZ24 (wd79 hw)) (notFace_of_selects (args := #[]) (mvT hZ24 (wd81 hw))) (mvT hZ24 (wd81 hw)) (mvT hZ24 (wd80 hw)) (by decide) (backOf (W := 1) (rm9_0 l Z a0 hw [] b33 b35 T36.heap n0 OL36 fc38) hZ24 (wd82 hw) (wd40 hw) (by decide) (by decide)) q40a q40c (g := (mkF m 156 #[.val (.int p1), .val (.long p2), .second, .val (.int p3), .val (.int p4), .val (.int (0 : Int32)), .val .null, .val (.ref w_VARCHAR), .val (.int (1 : Int32)), .val (.ref b23), .val (.ref b33), .val (.ref b35), .val (.int (1 : Int32))] [(.ref b35), (.ref b33), (.int (1 : Int32))])) rfl (by rw [hml]; rfl) (Steps.refl _) (argsL := [(.ref b35)]) (rest := [(.int (1 : Int32))]) (lenOf pd_4 rfl) rfl (by show 2 * 0 + _ ≤ _; exact Nat.le_of_eq rfl) (hb hby at_156) (fun _ _ => ⟨rfl, ec37, (by decide : 5 + 0 ≤ _), (by decide : 47 + 0 ≤ _)⟩)
        dsimp only [Pt.U, Pt.locs, Pt.cells, Pt.slots] at X40 l40 y40 z40 st40 hQ40
        subst l40 y40 z40
        obtain ⟨rfl, Nq40, ec40⟩ := hQ40
        have N40 := Fr.app N37 Nq40
        obtain ⟨fs, hr, hrun, hended, hRW⟩ := X40.leaveW (s := s) hS24 (by rw [ec40]; exact (Nat.le_trans (Nat.le_trans (Nat.le_trans (Nat.le_trans (Nat.le_trans hk24 K25.1) E33.1) K34.1) E35.1) K36.1)) (v := some (.int (1 : Int32))) (fun h => by rw [Bd.returns] at h; cases h)
        refine ⟨_, _, pre4 _ ?_, hrun, hended, _, _, rfl, ⟨rfl, N40⟩, hRW.1, hRW.2.1, hRW.2.2.1, hRW.2.2.2.mono (by decide) (by decide)⟩
        show Steps p.tables e below (T3.setTop (mkF m 77 #[.val (.int p1), .val (.long p2), .second, .val (.int p3), .val (.int p4), .val (.int (0 : Int32)), .val .null, .val (.ref w_VARCHAR), .unset, .unset, .unset, .unset, .unset] [(.int y3)])) _
        refine XS.ifNo X3.here hx rfl (hb hby at_77) rfl ((if0 _ _).trans (feq hf4).1) ?_
        show Steps p.tables e below (T3.setTop (mkF m 80 #[.val (.int p1), .val (.long p2), .second, .val (.int p3), .val (.int p4), .val (.int (0 : Int32)), .val .null, .val (.ref w_VARCHAR), .unset, .unset, .unset, .unset, .unset] [])) _
        refine XS.iconst X3.here hx rfl (hb hby at_80) ?_
        refine XS.goto X3.here hx rfl (pc0 := 81) (pc' := 85) rfl (hb hby at_81) (by decide) (by decide) ?_
        refine XS.istore X3.here hx rfl (hb hby at_85) rfl (l' := #[.val (.int p1), .val (.long p2), .second, .val (.int p3), .val (.int p4), .val (.int (0 : Int32)), .val .null, .val (.ref w_VARCHAR), .val (.int (1 : Int32)), .unset, .unset, .unset, .unset]) rfl ?_
        show Steps p.tables e below (T3.setTop (mkF m 87 #[.val (.int p1), .val (.long p2), .second, .val (.int p3), .val (.int p4), .val (.int (0 : Int32)), .val .null, .val (.ref w_VARCHAR), .val (.int (1 : Int32)), .unset, .unset, .unset, .unset] [])) _
        refine st23 _ ?_
        show Steps p.tables e below (T23.setTop (mkF m 90 #[.val (.int p1), .val (.long p2), .second, .val (.int p3), .val (.int p4), .val (.int (0 : Int32)), .val .null, .val (.ref w_VARCHAR), .val (.int (1 : Int32)), .unset, .unset, .unset, .unset] [(.ref b23)])) _
        refine XS.dup X23.here hx rfl (hb hby at_90) rfl rfl ?_
        refine st24 _ ?_
        refine XS.iconst X24.here hx rfl (hb hby at_93) ?_
        refine XS.aload X24.here hx rfl (hb hby at_94) rfl rfl ?_
        show Steps p.tables e below (T24.setTop (mkF m 96 #[.val (.int p1), .val (.long p2), .second, .val (.int p3), .val (.int p4), .val (.int (0 : Int32)), .val .null, .val (.ref w_VARCHAR), .val (.int (1 : Int32)), .unset, .unset, .unset, .unset] [(.ref w_VARCHAR), (.int (-1 : Int32)), (.ref b24), (.ref b23), (.ref b23)])) _
        refine X24.ldcInt hx hown24 (mvT hZ24 (wd0 hw)) (g := (mkF m 96 #[.val (.int p1), .val (.long p2), .second, .val (.int p3), .val (.int p4), .val (.int (0 : Int32)), .val .null, .val (.ref w_VARCHAR), .val (.int (1 : Int32)), .unset, .unset, .unset, .unset] [(.ref w_VARCHAR), (.int (-1 : Int32)), (.ref b24), (.ref b23), (.ref b23)])) rfl (hb hby at_96) _ ?_
        refine XS.iconst X24.here hx rfl (hb hby at_98) ?_
        refine XS.iload X24.here hx rfl (hb hby at_99) rfl ?_
        show Steps p.tables e below (T24.setTop (mkF m 101 #[.val (.int p1), .val (.long p2), .second, .val (.int p3), .val (.int p4), .val (.int (0 : Int32)), .val .null, .val (.ref w_VARCHAR), .val (.int (1 : Int32)), .unset, .unset, .unset, .unset] [(.int (1 : Int32)), (.int (0 : Int32)), (.int (2147483647 : Int32)), (.ref w_VARCHAR), (.int (-1 : Int32)), (.ref b24), (.ref b23), (.ref b23)])) _
        refine st25.trans ?_
        show Steps p.tables e below (T25.setTop (mkF m 104 #[.val (.int p1), .val (.long p2), .second, .val (.int p3), .val (.int p4), .val (.int (0 : Int32)), .val .null, .val (.ref w_VARCHAR), .val (.int (1 : Int32)), .unset, .unset, .unset, .unset] [(.ref b23)])) _
        refine XS.astore X25.here hx rfl (hb hby at_104) rfl rfl (l' := #[.val (.int p1), .val (.long p2), .second, .val (.int p3), .val (.int p4), .val (.int (0 : Int32)), .val .null, .val (.ref w_VARCHAR), .val (.int (1 : Int32)), .val (.ref b23), .unset, .unset, .unset]) rfl ?_
        show Steps p.tables e below (T25.setTop (mkF m 106 #[.val (.int p1), .val (.long p2), .second, .val (.int p3), .val (.int p4), .val (.int (0 : Int32)), .val .null, .val (.ref w_VARCHAR), .val (.int (1 : Int32)), .val (.ref b23), .unset, .unset, .unset] [])) _
        refine st33 _ ?_
        show Steps p.tables e below (T33.setTop (mkF m 109 #[.val (.int p1), .val (.long p2), .second, .val (.int p3), .val (.int p4), .val (.int (0 : Int32)), .val .null, .val (.ref w_VARCHAR), .val (.int (1 : Int32)), .val (.ref b23), .unset, .unset, .unset] [(.ref b33)])) _
        refine XS.dup X33.here hx rfl (hb hby at_109) rfl rfl ?_
        refine XS.aload X33.here hx rfl (hb hby at_110) rfl rfl ?_
        refine XS.aload X33.here hx rfl (hb hby at_112) rfl rfl ?_
        show Steps p.tables e below (T33.setTop (mkF m 114 #[.val (.int p1), .val (.long p2), .second, .val (.int p3), .val (.int p4), .val (.int (0 : Int32)), .val .null, .val (.ref w_VARCHAR), .val (.int (1 : Int32)), .val (.ref b23), .unset, .unset, .unset] [(.ref b23), .null, (.ref b33), (.ref b33)])) _
        refine st34.trans ?_
        show Steps p.tables e below (T34.setTop (mkF m 117 #[.val (.int p1), .val (.long p2), .second, .val (.int p3), .val (.int p4), .val (.int (0 : Int32)), .val .null, .val (.ref w_VARCHAR), .val (.int (1 : Int32)), .val (.ref b23), .unset, .unset, .unset] [(.ref b33)])) _
        refine XS.astore X34.here hx rfl (hb hby at_117) rfl rfl (l' := #[.val (.int p1), .val (.long p2), .second, .val (.int p3), .val (.int p4), .val (.int (0 : Int32)), .val .null, .val (.ref w_VARCHAR), .val (.int (1 : Int32)), .val (.ref b23), .val (.ref b33), .unset, .unset]) rfl ?_
        show Steps p.tables e below (T34.setTop (mkF m 119 #[.val (.int p1), .val (.long p2), .second, .val (.int p3), .val (.int p4), .val (.int (0 : Int32)), .val .null, .val (.ref w_VARCHAR), .val (.int (1 : Int32)), .val (.ref b23), .val (.ref b33), .unset, .unset] [])) _
        refine st35 _ ?_
        show Steps p.tables e below (T35.setTop (mkF m 122 #[.val (.int p1), .val (.long p2), .second, .val (.int p3), .val (.int p4), .val (.int (0 : Int32)), .val .null, .val (.ref w_VARCHAR), .val (.int (1 : Int32)), .val (.ref b23), .val (.ref b33), .unset, .unset] [(.ref b35)])) _
        refine XS.dup X35.here hx rfl (hb hby at_122) rfl rfl ?_
        show Steps p.tables e below (T35.setTop (mkF m 123 #[.val (.int p1), .val (.long p2), .second, .val (.int p3), .val (.int p4), .val (.int (0 : Int32)), .val .null, .val (.ref w_VARCHAR), .val (.int (1 : Int32)), .val (.ref b23), .val (.ref b33), .unset, .unset] [(.ref b35), (.ref b35)])) _
        refine st36.trans ?_
        show Steps p.tables e below (T36.setTop (mkF m 126 #[.val (.int p1), .val (.long p2), .second, .val (.int p3), .val (.int p4), .val (.int (0 : Int32)), .val .null, .val (.ref w_VARCHAR), .val (.int (1 : Int32)), .val (.ref b23), .val (.ref b33), .unset, .unset] [(.ref b35)])) _
        refine XS.astore X36.here hx rfl (hb hby at_126) rfl rfl (l' := #[.val (.int p1), .val (.long p2), .second, .val (.int p3), .val (.int p4), .val (.int (0 : Int32)), .val .null, .val (.ref w_VARCHAR), .val (.int (1 : Int32)), .val (.ref b23), .val (.ref b33), .val (.ref b35), .unset]) rfl ?_
        refine XS.aload X36.here hx rfl (hb hby at_128) rfl rfl ?_
        show Steps p.tables e below (T36.setTop (mkF m 130 #[.val (.int p1), .val (.long p2), .second, .val (.int p3), .val (.int p4), .val (.int (0 : Int32)), .val .null, .val (.ref w_VARCHAR), .val (.int (1 : Int32)), .val (.ref b23), .val (.ref b33), .val (.ref b35), .unset] [(.ref b33)])) _
        refine st37.trans ?_
        show Steps p.tables e below (T37.setTop (mkF m 133 #[.val (.int p1), .val (.long p2), .second, .val (.int p3), .val (.int p4), .val (.int (0 : Int32)), .val .null, .val (.ref w_VARCHAR), .val (.int (1 : Int32)), .val (.ref b23), .val (.ref b33), .val (.ref b35), .unset] [(.int (1 : Int32))])) _
        refine XS.istore X37.here hx rfl (hb hby at_133) rfl (l' := #[.val (.int p1), .val (.long p2), .second, .val (.int p3), .val (.int p4), .val (.int (0 : Int32)), .val .null, .val (.ref w_VARCHAR), .val (.int (1 : Int32)), .val (.ref b23), .val (.ref b33), .val (.ref b35), .val (.int (1 : Int32))]) rfl ?_
        refine XS.iload X37.here hx rfl (hb hby at_135) rfl ?_
        refine XS.iload X37.here hx rfl (hb hby at_137) rfl ?_
        show Steps p.tables e below (T37.setTop (mkF m 139 #[.val (.int p1), .val (.long p2), .second, .val (.int p3), .val (.int p4), .val (.int (0 : Int32)), .val .null, .val (.ref w_VARCHAR), .val (.int (1 : Int32)), .val (.ref b23), .val (.ref b33), .val (.ref b35), .val (.int (1 : Int32))] [(.int (0 : Int32)), (.int (1 : Int32))])) _
        refine XS.ifNo X37.here hx rfl (hb hby at_139) rfl ((if0 _ _).trans (teq (rfl : (0 : Int32) = (0 : Int32))).2) ?_
        show Steps p.tables e below (T37.setTop (mkF m 142 #[.val (.int p1), .val (.long p2), .second, .val (.int p3), .val (.int p4), .val (.int (0 : Int32)), .val .null, .val (.ref w_VARCHAR), .val (.int (1 : Int32)), .val (.ref b23), .val (.ref b33), .val (.ref b35), .val (.int (1 : Int32))] [(.int (1 : Int32))])) _
        refine XS.iconst X37.here hx rfl (hb hby at_142) ?_
        refine XS.goto X37.here hx rfl (pc0 := 143) (pc' := 147) rfl (hb hby at_143) (by decide) (by decide) ?_
        show Steps p.tables e below (T37.setTop (mkF m 147 #[.val (.int p1), .val (.long p2), .second, .val (.int p3), .val (.int p4), .val (.int (0 : Int32)), .val .null, .val (.ref w_VARCHAR), .val (.int (1 : Int32)), .val (.ref b23), .val (.ref b33), .val (.ref b35), .val (.int (1 : Int32))] [(.int (1 : Int32)), (.int (1 : Int32))])) _
        refine XS.icmpNo X37.here hx rfl (hb hby at_147) rfl (teq (rfl : (1 : Int32) = (1 : Int32))).2 ?_
        show Steps p.tables e below (T37.setTop (mkF m 150 #[.val (.int p1), .val (.long p2), .second, .val (.int p3), .val (.int p4), .val (.int (0 : Int32)), .val .null, .val (.ref w_VARCHAR), .val (.int (1 : Int32)), .val (.ref b23), .val (.ref b33), .val (.ref b35), .val (.int (1 : Int32))] [])) _
        refine XS.iload X37.here hx rfl (hb hby at_150) rfl ?_
        refine XS.aload X37.here hx rfl (hb hby at_152) rfl rfl ?_
        refine XS.aload X37.here hx rfl (hb hby at_154) rfl rfl ?_
        show Steps p.tables e below (T37.setTop (mkF m 156 #[.val (.int p1), .val (.long p2), .second, .val (.int p3), .val (.int p4), .val (.int (0 : Int32)), .val .null, .val (.ref w_VARCHAR), .val (.int (1 : Int32)), .val (.ref b23), .val (.ref b33), .val (.ref b35), .val (.int (1 : Int32))] [(.ref b35), (.ref b33), (.int (1 : Int32))])) _
        refine st40.trans ?_
        show Steps p.tables e below (T40.setTop (mkF m 159 #[.val (.int p1), .val (.long p2), .second, .val (.int p3), .val (.int p4), .val (.int (0 : Int32)), .val .null, .val (.ref w_VARCHAR), .val (.int (1 : Int32)), .val (.ref b23), .val (.ref b33), .val (.ref b35), .val (.int (1 : Int32))] [.null, (.int (1 : Int32))])) _
        refine XS.ifnonnullNo X40.here hx rfl (hb hby at_159) rfl ?_
        show Steps p.tables e below (T40.setTop (mkF m 162 #[.val (.int p1), .val (.long p2), .second, .val (.int p3), .val (.int p4), .val (.int (0 : Int32)), .val .null, .val (.ref w_VARCHAR), .val (.int (1 : Int32)), .val (.ref b23), .val (.ref b33), .val (.ref b35), .val (.int (1 : Int32))] [(.int (1 : Int32))])) _
        refine XS.iconst X40.here hx rfl (hb hby at_162) ?_
        refine XS.goto X40.here hx rfl (pc0 := 163) (pc' := 167) rfl (hb hby at_163) (by decide) (by decide) ?_
        show Steps p.tables e below (T40.setTop (mkF m 167 #[.val (.int p1), .val (.long p2), .second, .val (.int p3), .val (.int p4), .val (.int (0 : Int32)), .val .null, .val (.ref w_VARCHAR), .val (.int (1 : Int32)), .val (.ref b23), .val (.ref b33), .val (.ref b35), .val (.int (1 : Int32))] [(.int (1 : Int32)), (.int (1 : Int32))])) _
        refine XS.icmpNo X40.here hx rfl (hb hby at_167) rfl (teq (rfl : (1 : Int32) = (1 : Int32))).2 ?_
        show Steps p.tables e below (T40.setTop (mkF m 170 #[.val (.int p1), .val (.long p2), .second, .val (.int p3), .val (.int p4), .val (.int (0 : Int32)), .val .null, .val (.ref w_VARCHAR), .val (.int (1 : Int32)), .val (.ref b23), .val (.ref b33), .val (.ref b35), .val (.int (1 : Int32))] [])) _
        refine XS.iconst X40.here hx rfl (hb hby at_170) ?_
        refine XS.goto X40.here hx rfl (pc0 := 171) (pc' := 175) rfl (hb hby at_171) (by decide) (by decide) ?_
        show Steps p.tables e below (T40.setTop (mkF m 175 #[.val (.int p1), .val (.long p2), .second, .val (.int p3), .val (.int p4), .val (.int (0 : Int32)), .val .null, .val (.ref w_VARCHAR), .val (.int (1 : Int32)), .val (.ref b23), .val (.ref b33), .val (.ref b35), .val (.int (1 : Int32))] [(.int (1 : Int32))])) _
        exact retN X40 hx (t := .boolean) Bd.returns (by simp) (hb hby at_175) hr
    · obtain ⟨T41, X41, e41, st41⟩ := getS2 X0 hx hZ hown (host := "") (Or.inl (wd83 hw)) Via.refl e0 (pr6.ext OL0.2) (g := (mkF m 23 #[.val (.int p1), .val (.long p2), .second, .val (.int p3), .val (.int p4), .val (.int (0 : Int32)), .val .null, .unset, .unset, .unset, .unset, .unset, .unset] [])) rfl (hb hby at_23)
      have pre42 : ∀ t, Steps p.tables e below (T41.setTop (mkF m 77 #[.val (.int p1), .val (.long p2), .second, .val (.int p3), .val (.int p4), .val (.int (0 : Int32)), .val .null, .val (.ref w_INTEGER), .unset, .unset, .unset, .unset, .unset] [(.int y3)])) t → Steps p.tables e below (s₁.setTop (entryFrame m #[(.int p1), (.long p2), (.int p3), (.int p4)] maxLocals)) t := by
        intro t kt
        refine pre2 _ ?_
        show Steps p.tables e below (s₁.setTop (mkF m 20 #[.val (.int p1), .val (.long p2), .second, .val (.int p3), .val (.int p4), .val (.int (0 : Int32)), .val .null, .unset, .unset, .unset, .unset, .unset, .unset] [(.int y2)])) _
        refine XS.ifNo X0.here hx rfl (hb hby at_20) rfl ((if0 _ _).trans (feq hf2).1) ?_
        show Steps p.tables e below (s₁.setTop (mkF m 23 #[.val (.int p1), .val (.long p2), .second, .val (.int p3), .val (.int p4), .val (.int (0 : Int32)), .val .null, .unset, .unset, .unset, .unset, .unset, .unset] [])) _
        refine st41 _ ?_
        show Steps p.tables e below (T41.setTop (mkF m 26 #[.val (.int p1), .val (.long p2), .second, .val (.int p3), .val (.int p4), .val (.int (0 : Int32)), .val .null, .unset, .unset, .unset, .unset, .unset, .unset] [(.ref w_INTEGER)])) _
        refine XS.goto X41.here hx rfl (pc0 := 26) (pc' := 32) rfl (hb hby at_26) (by decide) (by decide) ?_
        refine XS.astore X41.here hx rfl (hb hby at_32) rfl rfl (l' := #[.val (.int p1), .val (.long p2), .second, .val (.int p3), .val (.int p4), .val (.int (0 : Int32)), .val .null, .val (.ref w_INTEGER), .unset, .unset, .unset, .unset, .unset]) rfl ?_
        refine XS.goto X41.here hx rfl (pc0 := 34) (pc' := 73) rfl (hb hby at_34) (by decide) (by decide) ?_
        refine XS.iload X41.here hx rfl (hb hby at_73) rfl ?_
        show Steps p.tables e below (T41.setTop (mkF m 75 #[.val (.int p1), .val (.long p2), .second, .val (.int p3), .val (.int p4), .val (.int (0 : Int32)), .val .null, .val (.ref w_INTEGER), .unset, .unset, .unset, .unset, .unset] [(.int p4)])) _
        refine XS.iconst X41.here hx rfl (hb hby at_75) ?_
        show Steps p.tables e below (T41.setTop (mkF m 76 #[.val (.int p1), .val (.long p2), .second, .val (.int p3), .val (.int p4), .val (.int (0 : Int32)), .val .null, .val (.ref w_INTEGER), .unset, .unset, .unset, .unset, .unset] [(.int (1 : Int32)), (.int p4)])) _
        refine XS.iand X41.here hx rfl (hb hby at_76) rfl ?_
        show Steps p.tables e below (T41.setTop (mkF m 77 #[.val (.int p1), .val (.long p2), .second, .val (.int p3), .val (.int p4), .val (.int (0 : Int32)), .val .null, .val (.ref w_INTEGER), .unset, .unset, .unset, .unset, .unset] [(.int (p4 &&& (1 : Int32)))])) _
        rw [pr4]
        exact kt
      by_cases hf42 : y3 = (0 : Int32)
      · obtain ⟨T43, h43, X43, e43, E43, A43, D43, -, st43⟩ := newO X41 hx hZ hown (wd4 hw) (wd5 hw) (wd6 hw) e41 (g := (mkF m 87 #[.val (.int p1), .val (.long p2), .second, .val (.int p3), .val (.int p4), .val (.int (0 : Int32)), .val .null, .val (.ref w_INTEGER), .val (.int (0 : Int32)), .unset, .unset, .unset, .unset] [])) rfl (hb hby at_87) (by decide) (by decide)
        obtain ⟨b43, g43⟩ : ∃ z, z = h0.size := ⟨_, rfl⟩
        rw [← g43] at A43 D43 st43
        have g_b43 : n0 ≤ b43 := (Nat.le_trans (Nat.le_trans (Nat.le_of_eq OL0.1.symm) OL0.2.1) (Nat.le_of_eq g43.symm))
        have sz_b43 : h0.size ≤ b43 := (Nat.le_trans (Keep.refl h0 []).1 (Nat.le_of_eq g43.symm))
        have KK43 : Keep h0 h43 [] := (Keep.refl h0 []).ext E43
        have OL43 := OL0.ext E43
        have F_name_b43 : Fld Z h43 b43 "com/example/rowforge/rowforge/Column" "name" "Ljava/lang/String;" .null := D43 (Or.inr (wd27 hw)) (ty := (.object "java/lang/String")) (by decide)
        have F_position_b43 : Fld Z h43 b43 "com/example/rowforge/rowforge/Column" "position" "I" (.int (0 : Int32)) := D43 (Or.inr (wd29 hw)) (ty := .int) (by decide)
        have F_type_b43 : Fld Z h43 b43 "com/example/rowforge/rowforge/Column" "type" "Lcom/example/rowforge/rowforge/SqlType;" .null := D43 (Or.inr (wd31 hw)) (ty := (.object "com/example/rowforge/rowforge/SqlType")) (by decide)
        have F_length_b43 : Fld Z h43 b43 "com/example/rowforge/rowforge/Column" "length" "I" (.int (0 : Int32)) := D43 (Or.inr (wd33 hw)) (ty := .int) (by decide)
        have F_scale_b43 : Fld Z h43 b43 "com/example/rowforge/rowforge/Column" "scale" "I" (.int (0 : Int32)) := D43 (Or.inr (wd35 hw)) (ty := .int) (by decide)
        have F_nullable_b43 : Fld Z h43 b43 "com/example/rowforge/rowforge/Column" "nullable" "Z" (.int (0 : Int32)) := D43 (Or.inr (wd37 hw)) (ty := .boolean) (by decide)
        obtain ⟨b44, T44, h44, k44, X44, e44, E44, hS44, hk44, hZ44, hown44, st44⟩ := ldcS (s := s) (vm0 := s.vm) X43 hx hZ hown (wd7 hw) (own_wS hw) e43 ((State.WarmedH.refl s).since 0) (Nat.le_trans (Nat.zero_le _) E43.1) (g := (mkF m 91 #[.val (.int p1), .val (.long p2), .second, .val (.int p3), .val (.int p4), .val (.int (0 : Int32)), .val .null, .val (.ref w_INTEGER), .val (.int (0 : Int32)), .unset, .unset, .unset, .unset] [(.ref b43), (.ref b43)])) rfl (hb hby at_91) (n := 32) (by decide) (by decide) (by decide) (by decide)
        have KK44 : Keep h0 h44 [] := KK43.ext E44
        have OL44 := OL43.ext E44
        have fc46 := (A43.ext E44)
        have fc47 := (F_name_b43.ext E44)
        have fc48 := (F_position_b43.ext E44)
        have fc49 := (F_type_b43.ext E44)
        have fc50 := (F_length_b43.ext E44)
        have fc51 := (F_scale_b43.ext E44)
        have fc52 := (F_nullable_b43.ext E44)
        obtain ⟨_, _, ⟨T45, L45, k45, n45⟩, -, X45, ⟨Lc45, hQ45, l45, y45, z45⟩, st45⟩ := X44.specialBack hx (y := (⟨"com/example/rowforge/rowforge/Column", "<init>", "(Ljava/lang/String;ILcom/example/rowforge/rowforge/SqlType;IIZ)V"⟩ : MethodName)) rfl hown44 (mvT hZ44 (wd15 hw)) (mvT hZ44 (wd16 hw)) (mvT hZ44 (wd17 hw)) (by decide) (backOf (W := 1) (rm1_0 l Z a0 hw [] b43 b44 w_INTEGER h44 n0 OL44 fc46 fc47 g_b43 fc48 fc49 fc50 fc51 fc52) hZ44 (wd17 hw) (wd6 hw) (by decide) (by decide)) (g := (mkF m 101 #[.val (.int p1), .val (.long p2), .second, .val (.int p3), .val (.int p4), .val (.int (0 : Int32)), .val .null, .val (.ref w_INTEGER), .val (.int (0 : Int32)), .unset, .unset, .unset, .unset] [(.int (0 : Int32)), (.int (0 : Int32)), (.int (2147483647 : Int32)), (.ref w_INTEGER), (.int (-1 : Int32)), (.ref b44), (.ref b43), (.ref b43)])) rfl (by rw [hml]; rfl) (Steps.refl _) (a := b43) (argsL := [(.ref b44), (.int (-1 : Int32)), (.ref w_INTEGER), (.int (2147483647 : Int32)), (.int (0 : Int32)), (.int (0 : Int32))]) (rest := [(.ref b43)]) (lenOf pd_1 rfl) rfl (by show 2 * 0 + _ ≤ _; exact Nat.le_of_eq rfl) (hb hby at_101) (fun _ _ => ⟨rfl, e44, (by decide : 3 + 0 ≤ _), (by decide : 42 + 0 ≤ _)⟩)
        dsimp only [Pt.U, Pt.locs, Pt.cells, Pt.slots] at X45 l45 y45 z45 st45 hQ45
        subst l45 y45 z45
        obtain ⟨rfl, Nq45, K45, u45_0, u45_1, u45_2, u45_3, u45_4, u45_5⟩ := hQ45
        have KK45 : Keep h0 T45.heap [] := KK44.trans K45 (allS (Or.inr sz_b43) all0)
        have OL45 := OL44.keep K45 (allS g_b43 all0)
        have N45 := Fr.app N0 Nq45
        obtain ⟨T53, h53, X53, e53, E53, A53, D53, -, st53⟩ := newO X45 hx hZ44 hown44 (wd38 hw) (wd39 hw) (wd40 hw) rfl (g := (mkF m 106 #[.val (.int p1), .val (.long p2), .second, .val (.int p3), .val (.int p4), .val (.int (0 : Int32)), .val .null, .val (.ref w_INTEGER), .val (.int (0 : Int32)), .val (.ref b43), .unset, .unset, .unset] [])) rfl (hb hby at_106) (by decide) (by decide)
        obtain ⟨b53, g53⟩ : ∃ z, z = T45.heap.size := ⟨_, rfl⟩
        rw [← g53] at A53 D53 st53
        have g_b53 : n0 ≤ b53 := (Nat.le_trans (Nat.le_trans (Nat.le_of_eq OL45.1.symm) OL45.2.1) (Nat.le_of_eq g53.symm))
        have sz_b53 : h0.size ≤ b53 := (Nat.le_trans KK45.1 (Nat.le_of_eq g53.symm))
        have KK53 : Keep h0 h53 [] := KK45.ext E53
        have OL53 := OL45.ext E53
        have F_value_b53 : Fld Z h53 b53 "com/example/rowforge/rowforge/Field$Constant" "value" "Ljava/lang/Object;" .null := D53 (Or.inr (wd46 hw)) (ty := (.object "java/lang/Object")) (by decide)
        have F_column_b53 : Fld Z h53 b53 "com/example/rowforge/rowforge/Field$Constant" "column" "Lcom/example/rowforge/rowforge/Column;" .null := D53 (Or.inr (wd48 hw)) (ty := (.object "com/example/rowforge/rowforge/Column")) (by decide)
        obtain ⟨_, _, ⟨T54, L54, k54, n54⟩, -, X54, ⟨Lc54, hQ54, l54, y54, z54⟩, st54⟩ := X53.specialBack hx (y := (⟨"com/example/rowforge/rowforge/Field$Constant", "<init>", "(Ljava/lang/Object;Lcom/example/rowforge/rowforge/Column;)V"⟩ : MethodName)) rfl hown44 (mvT hZ44 (wd41 hw)) (mvT hZ44 (wd42 hw)) (mvT hZ44 (wd43 hw)) (by decide) (backOf (W := 1) (rm4_0 l Z a0 hw [] b53 b43 h53 n0 OL53 A53 F_value_b53 g_b53 F_column_b53) hZ44 (wd43 hw) (wd40 hw) (by decide) (by decide)) (g := (mkF m 114 #[.val (.int p1), .val (.long p2), .second, .val (.int p3), .val (.int p4), .val (.int (0 : Int32)), .val .null, .val (.ref w_INTEGER), .val (.int (0 : Int32)), .val (.ref b43), .unset, .unset, .unset] [(.ref b43), .null, (.ref b53), (.ref b53)])) rfl (by rw [hml]; rfl) (Steps.refl _) (a := b53) (argsL := [.null, (.ref b43)]) (rest := [(.ref b53)]) (lenOf pd_2 rfl) rfl (by show 2 * 0 + _ ≤ _; exact Nat.le_of_eq rfl) (hb hby at_114) (fun _ _ => ⟨rfl, e53, (by decide : 4 + 0 ≤ _), (by decide : 44 + 0 ≤ _)⟩)
        dsimp only [Pt.U, Pt.locs, Pt.cells, Pt.slots] at X54 l54 y54 z54 st54 hQ54
        subst l54 y54 z54
        obtain ⟨rfl, Nq54, K54, u54_0, u54_1⟩ := hQ54
        have KK54 : Keep h0 T54.heap [] := KK53.trans K54 (allS (Or.inr sz_b53) all0)
        have OL54 := OL53.keep K54 (allS g_b53 all0)
        have N54 := Fr.app N45 Nq54
        obtain ⟨T55, h55, X55, e55, E55, A55, D55, -, st55⟩ := newO X54 hx hZ44 hown44 (wd49 hw) (wd50 hw) (wd51 hw) rfl (g := (mkF m 119 #[.val (.int p1), .val (.long p2), .second, .val (.int p3), .val (.int p4), .val (.int (0 : Int32)), .val .null, .val (.ref w_INTEGER), .val (.int (0 : Int32)), .val (.ref b43), .val (.ref b53), .unset, .unset] [])) rfl (hb hby at_119) (by decide) (by decide)
        obtain ⟨b55, g55⟩ : ∃ z, z = T54.heap.size := ⟨_, rfl⟩
        rw [← g55] at A55 D55 st55
        have g_b55 : n0 ≤ b55 := (Nat.le_trans (Nat.le_trans (Nat.le_of_eq OL54.1.symm) OL54.2.1) (Nat.le_of_eq g55.symm))
        have sz_b55 : h0.size ≤ b55 := (Nat.le_trans KK54.1 (Nat.le_of_eq g55.symm))
        have KK55 : Keep h0 h55 [] := KK54.ext E55
        have OL55 := OL54.ext E55
        have F_modCount_b55 : Fld Z h55 b55 "java/util/AbstractList" "modCount" "I" (.int (0 : Int32)) := D55 (Or.inl (wd69 hw)) (ty := .int) (by decide)
        have F_elementData_b55 : Fld Z h55 b55 "java/util/ArrayList" "elementData" "[Ljava/lang/Object;" .null := D55 (Or.inl (wd72 hw)) (ty := (.array (.object "java/lang/Object"))) (by decide)
        obtain ⟨_, _, ⟨T56, L56, k56, n56⟩, -, X56, ⟨Lc56, hQ56, l56, y56, z56⟩, st56⟩ := X55.specialBack hx (y := (⟨"java/util/ArrayList", "<init>", "()V"⟩ : MethodName)) rfl hown44 (mvT hZ44 (wd52 hw)) (mvT hZ44 (wd53 hw)) (mvT hZ44 (wd54 hw)) (by decide) (backOf (W := 1) (rm5_0 l Z a0 hw [] b55 w_DEFAULTCAPACITY_EMPTY_ELEMENTDATA h55 n0 OL55 A55 F_modCount_b55 g_b55 F_elementData_b55 pr5) hZ44 (wd54 hw) (wd51 hw) (by decide) (by decide)) (g := (mkF m 123 #[.val (.int p1), .val (.long p2), .second, .val (.int p3), .val (.int p4), .val (.int (0 : Int32)), .val .null, .val (.ref w_INTEGER), .val (.int (0 : Int32)), .val (.ref b43), .val (.ref b53), .unset, .unset] [(.ref b55), (.ref b55)])) rfl (by rw [hml]; rfl) (Steps.refl _) (a := b55) (argsL := []) (rest := [(.ref b55)]) (lenOf pd_0 rfl) rfl (by show 2 * 0 + _ ≤ _; exact Nat.le_of_eq rfl) (hb hby at_123) (fun _ _ => ⟨rfl, e55, (by decide : 5 + 0 ≤ _), (by decide : 47 + 0 ≤ _)⟩)
        dsimp only [Pt.U, Pt.locs, Pt.cells, Pt.slots] at X56 l56 y56 z56 st56 hQ56
        subst l56 y56 z56
        obtain ⟨rfl, Nq56, K56, u56_0, u56_1⟩ := hQ56
        have KK56 : Keep h0 T56.heap [] := KK55.trans K56 (allS (Or.inr sz_b55) all0)
        have OL56 := OL55.keep K56 (allS g_b55 all0)
        have N56 := Fr.app N54 Nq56
        have fc58 := ((u54_0.ext E55).keep K56 (ninS (Nat.ne_of_lt (Nat.lt_of_lt_of_le u54_1.lt (Nat.le_of_eq g55.symm))) nin0))
        have fc59 := (((A53.keep K54).ext E55).keep K56)
        obtain ⟨cq57, kq57, q57a, q57b, q57c⟩ := isOf hZ44 rfl fc59
        obtain ⟨_, _, ⟨T57, L57, k57, n57⟩, -, X57, ⟨Lc57, hQ57, l57, y57, z57⟩, st57⟩ := X56.virtualBack hx (y := (⟨"com/example/rowforge/rowforge/Field$Constant", "nullable", "()Z"⟩ : MethodName)) (z := (⟨"com/example/rowforge/rowforge/Field$Constant", "nullable", "()Z"⟩ : MethodName)) hown44 (mvT hZ44 (wd73 hw)) (mvT hZ44 (wd74 hw)) (notFace_of_selects (args := #[]) (mvT hZ44 (wd76 hw))) (mvT hZ44 (wd76 hw)) (mvT hZ44 (wd75 hw)) (by decide) (backOf (W := 0) (rm8_0 l Z a0 hw [] b53 T56.heap n0 OL56 fc58) hZ44 (wd77 hw) (wd40 hw) (by decide) (by decide)) q57a q57c (g := (mkF m 130 #[.val (.int p1), .val (.long p2), .second, .val (.int p3), .val (.int p4), .val (.int (0 : Int32)), .val .null, .val (.ref w_INTEGER), .val (.int (0 : Int32)), .val (.ref b43), .val (.ref b53), .val (.ref b55), .unset] [(.ref b53)])) rfl (by rw [hml]; rfl) (Steps.refl _) (argsL := []) (rest := []) (lenOf pd_3 rfl) rfl (by show 2 * 0 + _ ≤ _; exact Nat.le_of_eq rfl) (hb hby at_130) (fun _ _ => ⟨rfl, rfl, (by decide : 5 + 0 ≤ _), (by decide : 47 + 0 ≤ _)⟩)
        dsimp only [Pt.U, Pt.locs, Pt.cells, Pt.slots] at X57 l57 y57 z57 st57 hQ57
        subst l57 y57 z57
        obtain ⟨rfl, Nq57, ec57⟩ := hQ57
        have N57 := Fr.app N56 Nq57
        obtain ⟨cq60, kq60, q60a, q60b, q60c⟩ := isOf hZ44 ec57 fc59
        obtain ⟨_, _, ⟨T60, L60, k60, n60⟩, -, X60, ⟨Lc60, hQ60, l60, y60, z60⟩, st60⟩ := X57.virtualBack hx (y := (⟨"com/example/rowforge/rowforge/Field$Constant", "value", "(Ljava/util/List;)Ljava/lang/Object;"⟩ : MethodName)) (z := (⟨"com/example/rowforge/rowforge/Field$Constant", "value", "(Ljava/util/List;)Ljava/lang/Object;"⟩ : MethodName)) hown44 (mvT hZ44 (wd78 hw)) (mvT hZ44 (wd79 hw)) (notFace_of_selects (args := #[]) (mvT hZ44 (wd81 hw))) (mvT hZ44 (wd81 hw)) (mvT hZ44 (wd80 hw)) (by decide) (backOf (W := 1) (rm9_0 l Z a0 hw [] b53 b55 T56.heap n0 OL56 fc58) hZ44 (wd82 hw) (wd40 hw) (by decide) (by decide)) q60a q60c (g := (mkF m 156 #[.val (.int p1), .val (.long p2), .second, .val (.int p3), .val (.int p4), .val (.int (0 : Int32)), .val .null, .val (.ref w_INTEGER), .val (.int (0 : Int32)), .val (.ref b43), .val (.ref b53), .val (.ref b55), .val (.int (1 : Int32))] [(.ref b55), (.ref b53), (.int (1 : Int32))])) rfl (by rw [hml]; rfl) (Steps.refl _) (argsL := [(.ref b55)]) (rest := [(.int (1 : Int32))]) (lenOf pd_4 rfl) rfl (by show 2 * 0 + _ ≤ _; exact Nat.le_of_eq rfl) (hb hby at_156) (fun _ _ => ⟨rfl, ec57, (by decide : 5 + 0 ≤ _), (by decide : 47 + 0 ≤ _)⟩)
        dsimp only [Pt.U, Pt.locs, Pt.cells, Pt.slots] at X60 l60 y60 z60 st60 hQ60
        subst l60 y60 z60
        obtain ⟨rfl, Nq60, ec60⟩ := hQ60
        have N60 := Fr.app N57 Nq60
        obtain ⟨fs, hr, hrun, hended, hRW⟩ := X60.leaveW (s := s) hS44 (by rw [ec60]; exact (Nat.le_trans (Nat.le_trans (Nat.le_trans (Nat.le_trans (Nat.le_trans hk44 K45.1) E53.1) K54.1) E55.1) K56.1)) (v := some (.int (1 : Int32))) (fun h => by rw [Bd.returns] at h; cases h)
        refine ⟨_, _, pre42 _ ?_, hrun, hended, _, _, rfl, ⟨rfl, N60⟩, hRW.1, hRW.2.1, hRW.2.2.1, hRW.2.2.2.mono (by decide) (by decide)⟩
        show Steps p.tables e below (T41.setTop (mkF m 77 #[.val (.int p1), .val (.long p2), .second, .val (.int p3), .val (.int p4), .val (.int (0 : Int32)), .val .null, .val (.ref w_INTEGER), .unset, .unset, .unset, .unset, .unset] [(.int y3)])) _
        refine XS.ifYes X41.here hx rfl (pc0 := 77) (pc' := 84) rfl (hb hby at_77) rfl ((if0 _ _).trans (teq hf42).1) (by decide) (by decide) ?_
        show Steps p.tables e below (T41.setTop (mkF m 84 #[.val (.int p1), .val (.long p2), .second, .val (.int p3), .val (.int p4), .val (.int (0 : Int32)), .val .null, .val (.ref w_INTEGER), .unset, .unset, .unset, .unset, .unset] [])) _
        refine XS.iconst X41.here hx rfl (hb hby at_84) ?_
        refine XS.istore X41.here hx rfl (hb hby at_85) rfl (l' := #[.val (.int p1), .val (.long p2), .second, .val (.int p3), .val (.int p4), .val (.int (0 : Int32)), .val .null, .val (.ref w_INTEGER), .val (.int (0 : Int32)), .unset, .unset, .unset, .unset]) rfl ?_
        show Steps p.tables e below (T41.setTop (mkF m 87 #[.val (.int p1), .val (.long p2), .second, .val (.int p3), .val (.int p4), .val (.int (0 : Int32)), .val .null, .val (.ref w_INTEGER), .val (.int (0 : Int32)), .unset, .unset, .unset, .unset] [])) _
        refine st43 _ ?_
        show Steps p.tables e below (T43.setTop (mkF m 90 #[.val (.int p1), .val (.long p2), .second, .val (.int p3), .val (.int p4), .val (.int (0 : Int32)), .val .null, .val (.ref w_INTEGER), .val (.int (0 : Int32)), .unset, .unset, .unset, .unset] [(.ref b43)])) _
        refine XS.dup X43.here hx rfl (hb hby at_90) rfl rfl ?_
        refine st44 _ ?_
        refine XS.iconst X44.here hx rfl (hb hby at_93) ?_
        refine XS.aload X44.here hx rfl (hb hby at_94) rfl rfl ?_
        show Steps p.tables e below (T44.setTop (mkF m 96 #[.val (.int p1), .val (.long p2), .second, .val (.int p3), .val (.int p4), .val (.int (0 : Int32)), .val .null, .val (.ref w_INTEGER), .val (.int (0 : Int32)), .unset, .unset, .unset, .unset] [(.ref w_INTEGER), (.int (-1 : Int32)), (.ref b44), (.ref b43), (.ref b43)])) _
        refine X44.ldcInt hx hown44 (mvT hZ44 (wd0 hw)) (g := (mkF m 96 #[.val (.int p1), .val (.long p2), .second, .val (.int p3), .val (.int p4), .val (.int (0 : Int32)), .val .null, .val (.ref w_INTEGER), .val (.int (0 : Int32)), .unset, .unset, .unset, .unset] [(.ref w_INTEGER), (.int (-1 : Int32)), (.ref b44), (.ref b43), (.ref b43)])) rfl (hb hby at_96) _ ?_
        refine XS.iconst X44.here hx rfl (hb hby at_98) ?_
        refine XS.iload X44.here hx rfl (hb hby at_99) rfl ?_
        show Steps p.tables e below (T44.setTop (mkF m 101 #[.val (.int p1), .val (.long p2), .second, .val (.int p3), .val (.int p4), .val (.int (0 : Int32)), .val .null, .val (.ref w_INTEGER), .val (.int (0 : Int32)), .unset, .unset, .unset, .unset] [(.int (0 : Int32)), (.int (0 : Int32)), (.int (2147483647 : Int32)), (.ref w_INTEGER), (.int (-1 : Int32)), (.ref b44), (.ref b43), (.ref b43)])) _
        refine st45.trans ?_
        show Steps p.tables e below (T45.setTop (mkF m 104 #[.val (.int p1), .val (.long p2), .second, .val (.int p3), .val (.int p4), .val (.int (0 : Int32)), .val .null, .val (.ref w_INTEGER), .val (.int (0 : Int32)), .unset, .unset, .unset, .unset] [(.ref b43)])) _
        refine XS.astore X45.here hx rfl (hb hby at_104) rfl rfl (l' := #[.val (.int p1), .val (.long p2), .second, .val (.int p3), .val (.int p4), .val (.int (0 : Int32)), .val .null, .val (.ref w_INTEGER), .val (.int (0 : Int32)), .val (.ref b43), .unset, .unset, .unset]) rfl ?_
        show Steps p.tables e below (T45.setTop (mkF m 106 #[.val (.int p1), .val (.long p2), .second, .val (.int p3), .val (.int p4), .val (.int (0 : Int32)), .val .null, .val (.ref w_INTEGER), .val (.int (0 : Int32)), .val (.ref b43), .unset, .unset, .unset] [])) _
        refine st53 _ ?_
        show Steps p.tables e below (T53.setTop (mkF m 109 #[.val (.int p1), .val (.long p2), .second, .val (.int p3), .val (.int p4), .val (.int (0 : Int32)), .val .null, .val (.ref w_INTEGER), .val (.int (0 : Int32)), .val (.ref b43), .unset, .unset, .unset] [(.ref b53)])) _
        refine XS.dup X53.here hx rfl (hb hby at_109) rfl rfl ?_
        refine XS.aload X53.here hx rfl (hb hby at_110) rfl rfl ?_
        refine XS.aload X53.here hx rfl (hb hby at_112) rfl rfl ?_
        show Steps p.tables e below (T53.setTop (mkF m 114 #[.val (.int p1), .val (.long p2), .second, .val (.int p3), .val (.int p4), .val (.int (0 : Int32)), .val .null, .val (.ref w_INTEGER), .val (.int (0 : Int32)), .val (.ref b43), .unset, .unset, .unset] [(.ref b43), .null, (.ref b53), (.ref b53)])) _
        refine st54.trans ?_
        show Steps p.tables e below (T54.setTop (mkF m 117 #[.val (.int p1), .val (.long p2), .second, .val (.int p3), .val (.int p4), .val (.int (0 : Int32)), .val .null, .val (.ref w_INTEGER), .val (.int (0 : Int32)), .val (.ref b43), .unset, .unset, .unset] [(.ref b53)])) _
        refine XS.astore X54.here hx rfl (hb hby at_117) rfl rfl (l' := #[.val (.int p1), .val (.long p2), .second, .val (.int p3), .val (.int p4), .val (.int (0 : Int32)), .val .null, .val (.ref w_INTEGER), .val (.int (0 : Int32)), .val (.ref b43), .val (.ref b53), .unset, .unset]) rfl ?_
        show Steps p.tables e below (T54.setTop (mkF m 119 #[.val (.int p1), .val (.long p2), .second, .val (.int p3), .val (.int p4), .val (.int (0 : Int32)), .val .null, .val (.ref w_INTEGER), .val (.int (0 : Int32)), .val (.ref b43), .val (.ref b53), .unset, .unset] [])) _
        refine st55 _ ?_
        show Steps p.tables e below (T55.setTop (mkF m 122 #[.val (.int p1), .val (.long p2), .second, .val (.int p3), .val (.int p4), .val (.int (0 : Int32)), .val .null, .val (.ref w_INTEGER), .val (.int (0 : Int32)), .val (.ref b43), .val (.ref b53), .unset, .unset] [(.ref b55)])) _
        refine XS.dup X55.here hx rfl (hb hby at_122) rfl rfl ?_
        show Steps p.tables e below (T55.setTop (mkF m 123 #[.val (.int p1), .val (.long p2), .second, .val (.int p3), .val (.int p4), .val (.int (0 : Int32)), .val .null, .val (.ref w_INTEGER), .val (.int (0 : Int32)), .val (.ref b43), .val (.ref b53), .unset, .unset] [(.ref b55), (.ref b55)])) _
        refine st56.trans ?_
        show Steps p.tables e below (T56.setTop (mkF m 126 #[.val (.int p1), .val (.long p2), .second, .val (.int p3), .val (.int p4), .val (.int (0 : Int32)), .val .null, .val (.ref w_INTEGER), .val (.int (0 : Int32)), .val (.ref b43), .val (.ref b53), .unset, .unset] [(.ref b55)])) _
        refine XS.astore X56.here hx rfl (hb hby at_126) rfl rfl (l' := #[.val (.int p1), .val (.long p2), .second, .val (.int p3), .val (.int p4), .val (.int (0 : Int32)), .val .null, .val (.ref w_INTEGER), .val (.int (0 : Int32)), .val (.ref b43), .val (.ref b53), .val (.ref b55), .unset]) rfl ?_
        refine XS.aload X56.here hx rfl (hb hby at_128) rfl rfl ?_
        show Steps p.tables e below (T56.setTop (mkF m 130 #[.val (.int p1), .val (.long p2), .second, .val (.int p3), .val (.int p4), .val (.int (0 : Int32)), .val .null, .val (.ref w_INTEGER), .val (.int (0 : Int32)), .val (.ref b43), .val (.ref b53), .val (.ref b55), .unset] [(.ref b53)])) _
        refine st57.trans ?_
        show Steps p.tables e below (T57.setTop (mkF m 133 #[.val (.int p1), .val (.long p2), .second, .val (.int p3), .val (.int p4), .val (.int (0 : Int32)), .val .null, .val (.ref w_INTEGER), .val (.int (0 : Int32)), .val (.ref b43), .val (.ref b53), .val (.ref b55), .unset] [(.int (1 : Int32))])) _
        refine XS.istore X57.here hx rfl (hb hby at_133) rfl (l' := #[.val (.int p1), .val (.long p2), .second, .val (.int p3), .val (.int p4), .val (.int (0 : Int32)), .val .null, .val (.ref w_INTEGER), .val (.int (0 : Int32)), .val (.ref b43), .val (.ref b53), .val (.ref b55), .val (.int (1 : Int32))]) rfl ?_
        refine XS.iload X57.here hx rfl (hb hby at_135) rfl ?_
        refine XS.iload X57.here hx rfl (hb hby at_137) rfl ?_
        show Steps p.tables e below (T57.setTop (mkF m 139 #[.val (.int p1), .val (.long p2), .second, .val (.int p3), .val (.int p4), .val (.int (0 : Int32)), .val .null, .val (.ref w_INTEGER), .val (.int (0 : Int32)), .val (.ref b43), .val (.ref b53), .val (.ref b55), .val (.int (1 : Int32))] [(.int (0 : Int32)), (.int (1 : Int32))])) _
        refine XS.ifNo X57.here hx rfl (hb hby at_139) rfl ((if0 _ _).trans (teq (rfl : (0 : Int32) = (0 : Int32))).2) ?_
        show Steps p.tables e below (T57.setTop (mkF m 142 #[.val (.int p1), .val (.long p2), .second, .val (.int p3), .val (.int p4), .val (.int (0 : Int32)), .val .null, .val (.ref w_INTEGER), .val (.int (0 : Int32)), .val (.ref b43), .val (.ref b53), .val (.ref b55), .val (.int (1 : Int32))] [(.int (1 : Int32))])) _
        refine XS.iconst X57.here hx rfl (hb hby at_142) ?_
        refine XS.goto X57.here hx rfl (pc0 := 143) (pc' := 147) rfl (hb hby at_143) (by decide) (by decide) ?_
        show Steps p.tables e below (T57.setTop (mkF m 147 #[.val (.int p1), .val (.long p2), .second, .val (.int p3), .val (.int p4), .val (.int (0 : Int32)), .val .null, .val (.ref w_INTEGER), .val (.int (0 : Int32)), .val (.ref b43), .val (.ref b53), .val (.ref b55), .val (.int (1 : Int32))] [(.int (1 : Int32)), (.int (1 : Int32))])) _
        refine XS.icmpNo X57.here hx rfl (hb hby at_147) rfl (teq (rfl : (1 : Int32) = (1 : Int32))).2 ?_
        show Steps p.tables e below (T57.setTop (mkF m 150 #[.val (.int p1), .val (.long p2), .second, .val (.int p3), .val (.int p4), .val (.int (0 : Int32)), .val .null, .val (.ref w_INTEGER), .val (.int (0 : Int32)), .val (.ref b43), .val (.ref b53), .val (.ref b55), .val (.int (1 : Int32))] [])) _
        refine XS.iload X57.here hx rfl (hb hby at_150) rfl ?_
        refine XS.aload X57.here hx rfl (hb hby at_152) rfl rfl ?_
        refine XS.aload X57.here hx rfl (hb hby at_154) rfl rfl ?_
        show Steps p.tables e below (T57.setTop (mkF m 156 #[.val (.int p1), .val (.long p2), .second, .val (.int p3), .val (.int p4), .val (.int (0 : Int32)), .val .null, .val (.ref w_INTEGER), .val (.int (0 : Int32)), .val (.ref b43), .val (.ref b53), .val (.ref b55), .val (.int (1 : Int32))] [(.ref b55), (.ref b53), (.int (1 : Int32))])) _
        refine st60.trans ?_
        show Steps p.tables e below (T60.setTop (mkF m 159 #[.val (.int p1), .val (.long p2), .second, .val (.int p3), .val (.int p4), .val (.int (0 : Int32)), .val .null, .val (.ref w_INTEGER), .val (.int (0 : Int32)), .val (.ref b43), .val (.ref b53), .val (.ref b55), .val (.int (1 : Int32))] [.null, (.int (1 : Int32))])) _
        refine XS.ifnonnullNo X60.here hx rfl (hb hby at_159) rfl ?_
        show Steps p.tables e below (T60.setTop (mkF m 162 #[.val (.int p1), .val (.long p2), .second, .val (.int p3), .val (.int p4), .val (.int (0 : Int32)), .val .null, .val (.ref w_INTEGER), .val (.int (0 : Int32)), .val (.ref b43), .val (.ref b53), .val (.ref b55), .val (.int (1 : Int32))] [(.int (1 : Int32))])) _
        refine XS.iconst X60.here hx rfl (hb hby at_162) ?_
        refine XS.goto X60.here hx rfl (pc0 := 163) (pc' := 167) rfl (hb hby at_163) (by decide) (by decide) ?_
        show Steps p.tables e below (T60.setTop (mkF m 167 #[.val (.int p1), .val (.long p2), .second, .val (.int p3), .val (.int p4), .val (.int (0 : Int32)), .val .null, .val (.ref w_INTEGER), .val (.int (0 : Int32)), .val (.ref b43), .val (.ref b53), .val (.ref b55), .val (.int (1 : Int32))] [(.int (1 : Int32)), (.int (1 : Int32))])) _
        refine XS.icmpNo X60.here hx rfl (hb hby at_167) rfl (teq (rfl : (1 : Int32) = (1 : Int32))).2 ?_
        show Steps p.tables e below (T60.setTop (mkF m 170 #[.val (.int p1), .val (.long p2), .second, .val (.int p3), .val (.int p4), .val (.int (0 : Int32)), .val .null, .val (.ref w_INTEGER), .val (.int (0 : Int32)), .val (.ref b43), .val (.ref b53), .val (.ref b55), .val (.int (1 : Int32))] [])) _
        refine XS.iconst X60.here hx rfl (hb hby at_170) ?_
        refine XS.goto X60.here hx rfl (pc0 := 171) (pc' := 175) rfl (hb hby at_171) (by decide) (by decide) ?_
        show Steps p.tables e below (T60.setTop (mkF m 175 #[.val (.int p1), .val (.long p2), .second, .val (.int p3), .val (.int p4), .val (.int (0 : Int32)), .val .null, .val (.ref w_INTEGER), .val (.int (0 : Int32)), .val (.ref b43), .val (.ref b53), .val (.ref b55), .val (.int (1 : Int32))] [(.int (1 : Int32))])) _
        exact retN X60 hx (t := .boolean) Bd.returns (by simp) (hb hby at_175) hr
      · obtain ⟨T61, h61, X61, e61, E61, A61, D61, -, st61⟩ := newO X41 hx hZ hown (wd4 hw) (wd5 hw) (wd6 hw) e41 (g := (mkF m 87 #[.val (.int p1), .val (.long p2), .second, .val (.int p3), .val (.int p4), .val (.int (0 : Int32)), .val .null, .val (.ref w_INTEGER), .val (.int (1 : Int32)), .unset, .unset, .unset, .unset] [])) rfl (hb hby at_87) (by decide) (by decide)
        obtain ⟨b61, g61⟩ : ∃ z, z = h0.size := ⟨_, rfl⟩
        rw [← g61] at A61 D61 st61
        have g_b61 : n0 ≤ b61 := (Nat.le_trans (Nat.le_trans (Nat.le_of_eq OL0.1.symm) OL0.2.1) (Nat.le_of_eq g61.symm))
        have sz_b61 : h0.size ≤ b61 := (Nat.le_trans (Keep.refl h0 []).1 (Nat.le_of_eq g61.symm))
        have KK61 : Keep h0 h61 [] := (Keep.refl h0 []).ext E61
        have OL61 := OL0.ext E61
        have F_name_b61 : Fld Z h61 b61 "com/example/rowforge/rowforge/Column" "name" "Ljava/lang/String;" .null := D61 (Or.inr (wd27 hw)) (ty := (.object "java/lang/String")) (by decide)
        have F_position_b61 : Fld Z h61 b61 "com/example/rowforge/rowforge/Column" "position" "I" (.int (0 : Int32)) := D61 (Or.inr (wd29 hw)) (ty := .int) (by decide)
        have F_type_b61 : Fld Z h61 b61 "com/example/rowforge/rowforge/Column" "type" "Lcom/example/rowforge/rowforge/SqlType;" .null := D61 (Or.inr (wd31 hw)) (ty := (.object "com/example/rowforge/rowforge/SqlType")) (by decide)
        have F_length_b61 : Fld Z h61 b61 "com/example/rowforge/rowforge/Column" "length" "I" (.int (0 : Int32)) := D61 (Or.inr (wd33 hw)) (ty := .int) (by decide)
        have F_scale_b61 : Fld Z h61 b61 "com/example/rowforge/rowforge/Column" "scale" "I" (.int (0 : Int32)) := D61 (Or.inr (wd35 hw)) (ty := .int) (by decide)
        have F_nullable_b61 : Fld Z h61 b61 "com/example/rowforge/rowforge/Column" "nullable" "Z" (.int (0 : Int32)) := D61 (Or.inr (wd37 hw)) (ty := .boolean) (by decide)
        obtain ⟨b62, T62, h62, k62, X62, e62, E62, hS62, hk62, hZ62, hown62, st62⟩ := ldcS (s := s) (vm0 := s.vm) X61 hx hZ hown (wd7 hw) (own_wS hw) e61 ((State.WarmedH.refl s).since 0) (Nat.le_trans (Nat.zero_le _) E61.1) (g := (mkF m 91 #[.val (.int p1), .val (.long p2), .second, .val (.int p3), .val (.int p4), .val (.int (0 : Int32)), .val .null, .val (.ref w_INTEGER), .val (.int (1 : Int32)), .unset, .unset, .unset, .unset] [(.ref b61), (.ref b61)])) rfl (hb hby at_91) (n := 32) (by decide) (by decide) (by decide) (by decide)
        have KK62 : Keep h0 h62 [] := KK61.ext E62
        have OL62 := OL61.ext E62
        have fc64 := (A61.ext E62)
        have fc65 := (F_name_b61.ext E62)
        have fc66 := (F_position_b61.ext E62)
        have fc67 := (F_type_b61.ext E62)
        have fc68 := (F_length_b61.ext E62)
        have fc69 := (F_scale_b61.ext E62)
        have fc70 := (F_nullable_b61.ext E62)
        obtain ⟨_, _, ⟨T63, L63, k63, n63⟩, -, X63, ⟨Lc63, hQ63, l63, y63, z63⟩, st63⟩ := X62.specialBack hx (y := (⟨"com/example/rowforge/rowforge/Column", "<init>", "(Ljava/lang/String;ILcom/example/rowforge/rowforge/SqlType;IIZ)V"⟩ : MethodName)) rfl hown62 (mvT hZ62 (wd15 hw)) (mvT hZ62 (wd16 hw)) (mvT hZ62 (wd17 hw)) (by decide) (backOf (W := 1) (rm1_1 l Z a0 hw [] b61 b62 w_INTEGER h62 n0 OL62 fc64 fc65 g_b61 fc66 fc67 fc68 fc69 fc70) hZ62 (wd17 hw) (wd6 hw) (by decide) (by decide)) (g := (mkF m 101 #[.val (.int p1), .val (.long p2), .second, .val (.int p3), .val (.int p4), .val (.int (0 : Int32)), .val .null, .val (.ref w_INTEGER), .val (.int (1 : Int32)), .unset, .unset, .unset, .unset] [(.int (1 : Int32)), (.int (0 : Int32)), (.int (2147483647 : Int32)), (.ref w_INTEGER), (.int (-1 : Int32)), (.ref b62), (.ref b61), (.ref b61)])) rfl (by rw [hml]; rfl) (Steps.refl _) (a := b61) (argsL := [(.ref b62), (.int (-1 : Int32)), (.ref w_INTEGER), (.int (2147483647 : Int32)), (.int (0 : Int32)), (.int (1 : Int32))]) (rest := [(.ref b61)]) (lenOf pd_1 rfl) rfl (by show 2 * 0 + _ ≤ _; exact Nat.le_of_eq rfl) (hb hby at_101) (fun _ _ => ⟨rfl, e62, (by decide : 3 + 0 ≤ _), (by decide : 42 + 0 ≤ _)⟩)
        dsimp only [Pt.U, Pt.locs, Pt.cells, Pt.slots] at X63 l63 y63 z63 st63 hQ63
        subst l63 y63 z63
        obtain ⟨rfl, Nq63, K63, u63_0, u63_1, u63_2, u63_3, u63_4, u63_5⟩ := hQ63
        have KK63 : Keep h0 T63.heap [] := KK62.trans K63 (allS (Or.inr sz_b61) all0)
        have OL63 := OL62.keep K63 (allS g_b61 all0)
        have N63 := Fr.app N0 Nq63
        obtain ⟨T71, h71, X71, e71, E71, A71, D71, -, st71⟩ := newO X63 hx hZ62 hown62 (wd38 hw) (wd39 hw) (wd40 hw) rfl (g := (mkF m 106 #[.val (.int p1), .val (.long p2), .second, .val (.int p3), .val (.int p4), .val (.int (0 : Int32)), .val .null, .val (.ref w_INTEGER), .val (.int (1 : Int32)), .val (.ref b61), .unset, .unset, .unset] [])) rfl (hb hby at_106) (by decide) (by decide)
        obtain ⟨b71, g71⟩ : ∃ z, z = T63.heap.size := ⟨_, rfl⟩
        rw [← g71] at A71 D71 st71
        have g_b71 : n0 ≤ b71 := (Nat.le_trans (Nat.le_trans (Nat.le_of_eq OL63.1.symm) OL63.2.1) (Nat.le_of_eq g71.symm))
        have sz_b71 : h0.size ≤ b71 := (Nat.le_trans KK63.1 (Nat.le_of_eq g71.symm))
        have KK71 : Keep h0 h71 [] := KK63.ext E71
        have OL71 := OL63.ext E71
        have F_value_b71 : Fld Z h71 b71 "com/example/rowforge/rowforge/Field$Constant" "value" "Ljava/lang/Object;" .null := D71 (Or.inr (wd46 hw)) (ty := (.object "java/lang/Object")) (by decide)
        have F_column_b71 : Fld Z h71 b71 "com/example/rowforge/rowforge/Field$Constant" "column" "Lcom/example/rowforge/rowforge/Column;" .null := D71 (Or.inr (wd48 hw)) (ty := (.object "com/example/rowforge/rowforge/Column")) (by decide)
        obtain ⟨_, _, ⟨T72, L72, k72, n72⟩, -, X72, ⟨Lc72, hQ72, l72, y72, z72⟩, st72⟩ := X71.specialBack hx (y := (⟨"com/example/rowforge/rowforge/Field$Constant", "<init>", "(Ljava/lang/Object;Lcom/example/rowforge/rowforge/Column;)V"⟩ : MethodName)) rfl hown62 (mvT hZ62 (wd41 hw)) (mvT hZ62 (wd42 hw)) (mvT hZ62 (wd43 hw)) (by decide) (backOf (W := 1) (rm4_0 l Z a0 hw [] b71 b61 h71 n0 OL71 A71 F_value_b71 g_b71 F_column_b71) hZ62 (wd43 hw) (wd40 hw) (by decide) (by decide)) (g := (mkF m 114 #[.val (.int p1), .val (.long p2), .second, .val (.int p3), .val (.int p4), .val (.int (0 : Int32)), .val .null, .val (.ref w_INTEGER), .val (.int (1 : Int32)), .val (.ref b61), .unset, .unset, .unset] [(.ref b61), .null, (.ref b71), (.ref b71)])) rfl (by rw [hml]; rfl) (Steps.refl _) (a := b71) (argsL := [.null, (.ref b61)]) (rest := [(.ref b71)]) (lenOf pd_2 rfl) rfl (by show 2 * 0 + _ ≤ _; exact Nat.le_of_eq rfl) (hb hby at_114) (fun _ _ => ⟨rfl, e71, (by decide : 4 + 0 ≤ _), (by decide : 44 + 0 ≤ _)⟩)
        dsimp only [Pt.U, Pt.locs, Pt.cells, Pt.slots] at X72 l72 y72 z72 st72 hQ72
        subst l72 y72 z72
        obtain ⟨rfl, Nq72, K72, u72_0, u72_1⟩ := hQ72
        have KK72 : Keep h0 T72.heap [] := KK71.trans K72 (allS (Or.inr sz_b71) all0)
        have OL72 := OL71.keep K72 (allS g_b71 all0)
        have N72 := Fr.app N63 Nq72
        obtain ⟨T73, h73, X73, e73, E73, A73, D73, -, st73⟩ := newO X72 hx hZ62 hown62 (wd49 hw) (wd50 hw) (wd51 hw) rfl (g := (mkF m 119 #[.val (.int p1), .val (.long p2), .second, .val (.int p3), .val (.int p4), .val (.int (0 : Int32)), .val .null, .val (.ref w_INTEGER), .val (.int (1 : Int32)), .val (.ref b61), .val (.ref b71), .unset, .unset] [])) rfl (hb hby at_119) (by decide) (by decide)
        obtain ⟨b73, g73⟩ : ∃ z, z = T72.heap.size := ⟨_, rfl⟩
        rw [← g73] at A73 D73 st73
        have g_b73 : n0 ≤ b73 := (Nat.le_trans (Nat.le_trans (Nat.le_of_eq OL72.1.symm) OL72.2.1) (Nat.le_of_eq g73.symm))
        have sz_b73 : h0.size ≤ b73 := (Nat.le_trans KK72.1 (Nat.le_of_eq g73.symm))
        have KK73 : Keep h0 h73 [] := KK72.ext E73
        have OL73 := OL72.ext E73
        have F_modCount_b73 : Fld Z h73 b73 "java/util/AbstractList" "modCount" "I" (.int (0 : Int32)) := D73 (Or.inl (wd69 hw)) (ty := .int) (by decide)
        have F_elementData_b73 : Fld Z h73 b73 "java/util/ArrayList" "elementData" "[Ljava/lang/Object;" .null := D73 (Or.inl (wd72 hw)) (ty := (.array (.object "java/lang/Object"))) (by decide)
        obtain ⟨_, _, ⟨T74, L74, k74, n74⟩, -, X74, ⟨Lc74, hQ74, l74, y74, z74⟩, st74⟩ := X73.specialBack hx (y := (⟨"java/util/ArrayList", "<init>", "()V"⟩ : MethodName)) rfl hown62 (mvT hZ62 (wd52 hw)) (mvT hZ62 (wd53 hw)) (mvT hZ62 (wd54 hw)) (by decide) (backOf (W := 1) (rm5_0 l Z a0 hw [] b73 w_DEFAULTCAPACITY_EMPTY_ELEMENTDATA h73 n0 OL73 A73 F_modCount_b73 g_b73 F_elementData_b73 pr5) hZ62 (wd54 hw) (wd51 hw) (by decide) (by decide)) (g := (mkF m 123 #[.val (.int p1), .val (.long p2), .second, .val (.int p3), .val (.int p4), .val (.int (0 : Int32)), .val .null, .val (.ref w_INTEGER), .val (.int (1 : Int32)), .val (.ref b61), .val (.ref b71), .unset, .unset] [(.ref b73), (.ref b73)])) rfl (by rw [hml]; rfl) (Steps.refl _) (a := b73) (argsL := []) (rest := [(.ref b73)]) (lenOf pd_0 rfl) rfl (by show 2 * 0 + _ ≤ _; exact Nat.le_of_eq rfl) (hb hby at_123) (fun _ _ => ⟨rfl, e73, (by decide : 5 + 0 ≤ _), (by decide : 47 + 0 ≤ _)⟩)
        dsimp only [Pt.U, Pt.locs, Pt.cells, Pt.slots] at X74 l74 y74 z74 st74 hQ74
        subst l74 y74 z74
        obtain ⟨rfl, Nq74, K74, u74_0, u74_1⟩ := hQ74
        have KK74 : Keep h0 T74.heap [] := KK73.trans K74 (allS (Or.inr sz_b73) all0)
        have OL74 := OL73.keep K74 (allS g_b73 all0)
        have N74 := Fr.app N72 Nq74
        have fc76 := ((u72_0.ext E73).keep K74 (ninS (Nat.ne_of_lt (Nat.lt_of_lt_of_le u72_1.lt (Nat.le_of_eq g73.symm))) nin0))
        have fc77 := (((A71.keep K72).ext E73).keep K74)
        obtain ⟨cq75, kq75, q75a, q75b, q75c⟩ := isOf hZ62 rfl fc77
        obtain ⟨_, _, ⟨T75, L75, k75, n75⟩, -, X75, ⟨Lc75, hQ75, l75, y75, z75⟩, st75⟩ := X74.virtualBack hx (y := (⟨"com/example/rowforge/rowforge/Field$Constant", "nullable", "()Z"⟩ : MethodName)) (z := (⟨"com/example/rowforge/rowforge/Field$Constant", "nullable", "()Z"⟩ : MethodName)) hown62 (mvT hZ62 (wd73 hw)) (mvT hZ62 (wd74 hw)) (notFace_of_selects (args := #[]) (mvT hZ62 (wd76 hw))) (mvT hZ62 (wd76 hw)) (mvT hZ62 (wd75 hw)) (by decide) (backOf (W := 0) (rm8_0 l Z a0 hw [] b71 T74.heap n0 OL74 fc76) hZ62 (wd77 hw) (wd40 hw) (by decide) (by decide)) q75a q75c (g := (mkF m 130 #[.val (.int p1), .val (.long p2), .second, .val (.int p3), .val (.int p4), .val (.int (0 : Int32)), .val .null, .val (.ref w_INTEGER), .val (.int (1 : Int32)), .val (.ref b61), .val (.ref b71), .val (.ref b73), .unset] [(.ref b71)])) rfl (by rw [hml]; rfl) (Steps.refl _) (argsL := []) (rest := []) (lenOf pd_3 rfl) rfl (by show 2 * 0 + _ ≤ _; exact Nat.le_of_eq rfl) (hb hby at_130) (fun _ _ => ⟨rfl, rfl, (by decide : 5 + 0 ≤ _), (by decide : 47 + 0 ≤ _)⟩)
        dsimp only [Pt.U, Pt.locs, Pt.cells, Pt.slots] at X75 l75 y75 z75 st75 hQ75
        subst l75 y75 z75
        obtain ⟨rfl, Nq75, ec75⟩ := hQ75
        have N75 := Fr.app N74 Nq75
        obtain ⟨cq78, kq78, q78a, q78b, q78c⟩ := isOf hZ62 ec75 fc77
        obtain ⟨_, _, ⟨T78, L78, k78, n78⟩, -, X78, ⟨Lc78, hQ78, l78, y78, z78⟩, st78⟩ := X75.virtualBack hx (y := (⟨"com/example/rowforge/rowforge/Field$Constant", "value", "(Ljava/util/List;)Ljava/lang/Object;"⟩ : MethodName)) (z := (⟨"com/example/rowforge/rowforge/Field$Constant", "value", "(Ljava/util/List;)Ljava/lang/Object;"⟩ : MethodName)) hown62 (mvT hZ62 (wd78 hw)) (mvT hZ62 (wd79 hw)) (notFace_of_selects (args := #[]) (mvT hZ62 (wd81 hw))) (mvT hZ62 (wd81 hw)) (mvT hZ62 (wd80 hw)) (by decide) (backOf (W := 1) (rm9_0 l Z a0 hw [] b71 b73 T74.heap n0 OL74 fc76) hZ62 (wd82 hw) (wd40 hw) (by decide) (by decide)) q78a q78c (g := (mkF m 156 #[.val (.int p1), .val (.long p2), .second, .val (.int p3), .val (.int p4), .val (.int (0 : Int32)), .val .null, .val (.ref w_INTEGER), .val (.int (1 : Int32)), .val (.ref b61), .val (.ref b71), .val (.ref b73), .val (.int (1 : Int32))] [(.ref b73), (.ref b71), (.int (1 : Int32))])) rfl (by rw [hml]; rfl) (Steps.refl _) (argsL := [(.ref b73)]) (rest := [(.int (1 : Int32))]) (lenOf pd_4 rfl) rfl (by show 2 * 0 + _ ≤ _; exact Nat.le_of_eq rfl) (hb hby at_156) (fun _ _ => ⟨rfl, ec75, (by decide : 5 + 0 ≤ _), (by decide : 47 + 0 ≤ _)⟩)
        dsimp only [Pt.U, Pt.locs, Pt.cells, Pt.slots] at X78 l78 y78 z78 st78 hQ78
        subst l78 y78 z78
        obtain ⟨rfl, Nq78, ec78⟩ := hQ78
        have N78 := Fr.app N75 Nq78
        obtain ⟨fs, hr, hrun, hended, hRW⟩ := X78.leaveW (s := s) hS62 (by rw [ec78]; exact (Nat.le_trans (Nat.le_trans (Nat.le_trans (Nat.le_trans (Nat.le_trans hk62 K63.1) E71.1) K72.1) E73.1) K74.1)) (v := some (.int (1 : Int32))) (fun h => by rw [Bd.returns] at h; cases h)
        refine ⟨_, _, pre42 _ ?_, hrun, hended, _, _, rfl, ⟨rfl, N78⟩, hRW.1, hRW.2.1, hRW.2.2.1, hRW.2.2.2.mono (by decide) (by decide)⟩
        show Steps p.tables e below (T41.setTop (mkF m 77 #[.val (.int p1), .val (.long p2), .second, .val (.int p3), .val (.int p4), .val (.int (0 : Int32)), .val .null, .val (.ref w_INTEGER), .unset, .unset, .unset, .unset, .unset] [(.int y3)])) _
        refine XS.ifNo X41.here hx rfl (hb hby at_77) rfl ((if0 _ _).trans (feq hf42).1) ?_
        show Steps p.tables e below (T41.setTop (mkF m 80 #[.val (.int p1), .val (.long p2), .second, .val (.int p3), .val (.int p4), .val (.int (0 : Int32)), .val .null, .val (.ref w_INTEGER), .unset, .unset, .unset, .unset, .unset] [])) _
        refine XS.iconst X41.here hx rfl (hb hby at_80) ?_
        refine XS.goto X41.here hx rfl (pc0 := 81) (pc' := 85) rfl (hb hby at_81) (by decide) (by decide) ?_
        refine XS.istore X41.here hx rfl (hb hby at_85) rfl (l' := #[.val (.int p1), .val (.long p2), .second, .val (.int p3), .val (.int p4), .val (.int (0 : Int32)), .val .null, .val (.ref w_INTEGER), .val (.int (1 : Int32)), .unset, .unset, .unset, .unset]) rfl ?_
        show Steps p.tables e below (T41.setTop (mkF m 87 #[.val (.int p1), .val (.long p2), .second, .val (.int p3), .val (.int p4), .val (.int (0 : Int32)), .val .null, .val (.ref w_INTEGER), .val (.int (1 : Int32)), .unset, .unset, .unset, .unset] [])) _
        refine st61 _ ?_
        show Steps p.tables e below (T61.setTop (mkF m 90 #[.val (.int p1), .val (.long p2), .second, .val (.int p3), .val (.int p4), .val (.int (0 : Int32)), .val .null, .val (.ref w_INTEGER), .val (.int (1 : Int32)), .unset, .unset, .unset, .unset] [(.ref b61)])) _
        refine XS.dup X61.here hx rfl (hb hby at_90) rfl rfl ?_
        refine st62 _ ?_
        refine XS.iconst X62.here hx rfl (hb hby at_93) ?_
        refine XS.aload X62.here hx rfl (hb hby at_94) rfl rfl ?_
        show Steps p.tables e below (T62.setTop (mkF m 96 #[.val (.int p1), .val (.long p2), .second, .val (.int p3), .val (.int p4), .val (.int (0 : Int32)), .val .null, .val (.ref w_INTEGER), .val (.int (1 : Int32)), .unset, .unset, .unset, .unset] [(.ref w_INTEGER), (.int (-1 : Int32)), (.ref b62), (.ref b61), (.ref b61)])) _
        refine X62.ldcInt hx hown62 (mvT hZ62 (wd0 hw)) (g := (mkF m 96 #[.val (.int p1), .val (.long p2), .second, .val (.int p3), .val (.int p4), .val (.int (0 : Int32)), .val .null, .val (.ref w_INTEGER), .val (.int (1 : Int32)), .unset, .unset, .unset, .unset] [(.ref w_INTEGER), (.int (-1 : Int32)), (.ref b62), (.ref b61), (.ref b61)])) rfl (hb hby at_96) _ ?_
        refine XS.iconst X62.here hx rfl (hb hby at_98) ?_
        refine XS.iload X62.here hx rfl (hb hby at_99) rfl ?_
        show Steps p.tables e below (T62.setTop (mkF m 101 #[.val (.int p1), .val (.long p2), .second, .val (.int p3), .val (.int p4), .val (.int (0 : Int32)), .val .null, .val (.ref w_INTEGER), .val (.int (1 : Int32)), .unset, .unset, .unset, .unset] [(.int (1 : Int32)), (.int (0 : Int32)), (.int (2147483647 : Int32)), (.ref w_INTEGER), (.int (-1 : Int32)), (.ref b62), (.ref b61), (.ref b61)])) _
        refine st63.trans ?_
        show Steps p.tables e below (T63.setTop (mkF m 104 #[.val (.int p1), .val (.long p2), .second, .val (.int p3), .val (.int p4), .val (.int (0 : Int32)), .val .null, .val (.ref w_INTEGER), .val (.int (1 : Int32)), .unset, .unset, .unset, .unset] [(.ref b61)])) _
        refine XS.astore X63.here hx rfl (hb hby at_104) rfl rfl (l' := #[.val (.int p1), .val (.long p2), .second, .val (.int p3), .val (.int p4), .val (.int (0 : Int32)), .val .null, .val (.ref w_INTEGER), .val (.int (1 : Int32)), .val (.ref b61), .unset, .unset, .unset]) rfl ?_
        show Steps p.tables e below (T63.setTop (mkF m 106 #[.val (.int p1), .val (.long p2), .second, .val (.int p3), .val (.int p4), .val (.int (0 : Int32)), .val .null, .val (.ref w_INTEGER), .val (.int (1 : Int32)), .val (.ref b61), .unset, .unset, .unset] [])) _
        refine st71 _ ?_
        show Steps p.tables e below (T71.setTop (mkF m 109 #[.val (.int p1), .val (.long p2), .second, .val (.int p3), .val (.int p4), .val (.int (0 : Int32)), .val .null, .val (.ref w_INTEGER), .val (.int (1 : Int32)), .val (.ref b61), .unset, .unset, .unset] [(.ref b71)])) _
        refine XS.dup X71.here hx rfl (hb hby at_109) rfl rfl ?_
        refine XS.aload X71.here hx rfl (hb hby at_110) rfl rfl ?_
        refine XS.aload X71.here hx rfl (hb hby at_112) rfl rfl ?_
        show Steps p.tables e below (T71.setTop (mkF m 114 #[.val (.int p1), .val (.long p2), .second, .val (.int p3), .val (.int p4), .val (.int (0 : Int32)), .val .null, .val (.ref w_INTEGER), .val (.int (1 : Int32)), .val (.ref b61), .unset, .unset, .unset] [(.ref b61), .null, (.ref b71), (.ref b71)])) _
        refine st72.trans ?_
        show Steps p.tables e below (T72.setTop (mkF m 117 #[.val (.int p1), .val (.long p2), .second, .val (.int p3), .val (.int p4), .val (.int (0 : Int32)), .val .null, .val (.ref w_INTEGER), .val (.int (1 : Int32)), .val (.ref b61), .unset, .unset, .unset] [(.ref b71)])) _
        refine XS.astore X72.here hx rfl (hb hby at_117) rfl rfl (l' := #[.val (.int p1), .val (.long p2), .second, .val (.int p3), .val (.int p4), .val (.int (0 : Int32)), .val .null, .val (.ref w_INTEGER), .val (.int (1 : Int32)), .val (.ref b61), .val (.ref b71), .unset, .unset]) rfl ?_
        show Steps p.tables e below (T72.setTop (mkF m 119 #[.val (.int p1), .val (.long p2), .second, .val (.int p3), .val (.int p4), .val (.int (0 : Int32)), .val .null, .val (.ref w_INTEGER), .val (.int (1 : Int32)), .val (.ref b61), .val (.ref b71), .unset, .unset] [])) _
        refine st73 _ ?_
        show Steps p.tables e below (T73.setTop (mkF m 122 #[.val (.int p1), .val (.long p2), .second, .val (.int p3), .val (.int p4), .val (.int (0 : Int32)), .val .null, .val (.ref w_INTEGER), .val (.int (1 : Int32)), .val (.ref b61), .val (.ref b71), .unset, .unset] [(.ref b73)])) _
        refine XS.dup X73.here hx rfl (hb hby at_122) rfl rfl ?_
        show Steps p.tables e below (T73.setTop (mkF m 123 #[.val (.int p1), .val (.long p2), .second, .val (.int p3), .val (.int p4), .val (.int (0 : Int32)), .val .null, .val (.ref w_INTEGER), .val (.int (1 : Int32)), .val (.ref b61), .val (.ref b71), .unset, .unset] [(.ref b73), (.ref b73)])) _
        refine st74.trans ?_
        show Steps p.tables e below (T74.setTop (mkF m 126 #[.val (.int p1), .val (.long p2), .second, .val (.int p3), .val (.int p4), .val (.int (0 : Int32)), .val .null, .val (.ref w_INTEGER), .val (.int (1 : Int32)), .val (.ref b61), .val (.ref b71), .unset, .unset] [(.ref b73)])) _
        refine XS.astore X74.here hx rfl (hb hby at_126) rfl rfl (l' := #[.val (.int p1), .val (.long p2), .second, .val (.int p3), .val (.int p4), .val (.int (0 : Int32)), .val .null, .val (.ref w_INTEGER), .val (.int (1 : Int32)), .val (.ref b61), .val (.ref b71), .val (.ref b73), .unset]) rfl ?_
        refine XS.aload X74.here hx rfl (hb hby at_128) rfl rfl ?_
        show Steps p.tables e below (T74.setTop (mkF m 130 #[.val (.int p1), .val (.long p2), .second, .val (.int p3), .val (.int p4), .val (.int (0 : Int32)), .val .null, .val (.ref w_INTEGER), .val (.int (1 : Int32)), .val (.ref b61), .val (.ref b71), .val (.ref b73), .unset] [(.ref b71)])) _
        refine st75.trans ?_
        show Steps p.tables e below (T75.setTop (mkF m 133 #[.val (.int p1), .val (.long p2), .second, .val (.int p3), .val (.int p4), .val (.int (0 : Int32)), .val .null, .val (.ref w_INTEGER), .val (.int (1 : Int32)), .val (.ref b61), .val (.ref b71), .val (.ref b73), .unset] [(.int (1 : Int32))])) _
        refine XS.istore X75.here hx rfl (hb hby at_133) rfl (l' := #[.val (.int p1), .val (.long p2), .second, .val (.int p3), .val (.int p4), .val (.int (0 : Int32)), .val .null, .val (.ref w_INTEGER), .val (.int (1 : Int32)), .val (.ref b61), .val (.ref b71), .val (.ref b73), .val (.int (1 : Int32))]) rfl ?_
        refine XS.iload X75.here hx rfl (hb hby at_135) rfl ?_
        refine XS.iload X75.here hx rfl (hb hby at_137) rfl ?_
        show Steps p.tables e below (T75.setTop (mkF m 139 #[.val (.int p1), .val (.long p2), .second, .val (.int p3), .val (.int p4), .val (.int (0 : Int32)), .val .null, .val (.ref w_INTEGER), .val (.int (1 : Int32)), .val (.ref b61), .val (.ref b71), .val (.ref b73), .val (.int (1 : Int32))] [(.int (0 : Int32)), (.int (1 : Int32))])) _
        refine XS.ifNo X75.here hx rfl (hb hby at_139) rfl ((if0 _ _).trans (teq (rfl : (0 : Int32) = (0 : Int32))).2) ?_
        show Steps p.tables e below (T75.setTop (mkF m 142 #[.val (.int p1), .val (.long p2), .second, .val (.int p3), .val (.int p4), .val (.int (0 : Int32)), .val .null, .val (.ref w_INTEGER), .val (.int (1 : Int32)), .val (.ref b61), .val (.ref b71), .val (.ref b73), .val (.int (1 : Int32))] [(.int (1 : Int32))])) _
        refine XS.iconst X75.here hx rfl (hb hby at_142) ?_
        refine XS.goto X75.here hx rfl (pc0 := 143) (pc' := 147) rfl (hb hby at_143) (by decide) (by decide) ?_
        show Steps p.tables e below (T75.setTop (mkF m 147 #[.val (.int p1), .val (.long p2), .second, .val (.int p3), .val (.int p4), .val (.int (0 : Int32)), .val .null, .val (.ref w_INTEGER), .val (.int (1 : Int32)), .val (.ref b61), .val (.ref b71), .val (.ref b73), .val (.int (1 : Int32))] [(.int (1 : Int32)), (.int (1 : Int32))])) _
        refine XS.icmpNo X75.here hx rfl (hb hby at_147) rfl (teq (rfl : (1 : Int32) = (1 : Int32))).2 ?_
        show Steps p.tables e below (T75.setTop (mkF m 150 #[.val (.int p1), .val (.long p2), .second, .val (.int p3), .val (.int p4), .val (.int (0 : Int32)), .val .null, .val (.ref w_INTEGER), .val (.int (1 : Int32)), .val (.ref b61), .val (.ref b71), .val (.ref b73), .val (.int (1 : Int32))] [])) _
        refine XS.iload X75.here hx rfl (hb hby at_150) rfl ?_
        refine XS.aload X75.here hx rfl (hb hby at_152) rfl rfl ?_
        refine XS.aload X75.here hx rfl (hb hby at_154) rfl rfl ?_
        show Steps p.tables e below (T75.setTop (mkF m 156 #[.val (.int p1), .val (.long p2), .second, .val (.int p3), .val (.int p4), .val (.int (0 : Int32)), .val .null, .val (.ref w_INTEGER), .val (.int (1 : Int32)), .val (.ref b61), .val (.ref b71), .val (.ref b73), .val (.int (1 : Int32))] [(.ref b73), (.ref b71), (.int (1 : Int32))])) _
        refine st78.trans ?_
        show Steps p.tables e below (T78.setTop (mkF m 159 #[.val (.int p1), .val (.long p2), .second, .val (.int p3), .val (.int p4), .val (.int (0 : Int32)), .val .null, .val (.ref w_INTEGER), .val (.int (1 : Int32)), .val (.ref b61), .val (.ref b71), .val (.ref b73), .val (.int (1 : Int32))] [.null, (.int (1 : Int32))])) _
        refine XS.ifnonnullNo X78.here hx rfl (hb hby at_159) rfl ?_
        show Steps p.tables e below (T78.setTop (mkF m 162 #[.val (.int p1), .val (.long p2), .second, .val (.int p3), .val (.int p4), .val (.int (0 : Int32)), .val .null, .val (.ref w_INTEGER), .val (.int (1 : Int32)), .val (.ref b61), .val (.ref b71), .val (.ref b73), .val (.int (1 : Int32))] [(.int (1 : Int32))])) _
        refine XS.iconst X78.here hx rfl (hb hby at_162) ?_
        refine XS.goto X78.here hx rfl (pc0 := 163) (pc' := 167) rfl (hb hby at_163) (by decide) (by decide) ?_
        show Steps p.tables e below (T78.setTop (mkF m 167 #[.val (.int p1), .val (.long p2), .second, .val (.int p3), .val (.int p4), .val (.int (0 : Int32)), .val .null, .val (.ref w_INTEGER), .val (.int (1 : Int32)), .val (.ref b61), .val (.ref b71), .val (.ref b73), .val (.int (1 : Int32))] [(.int (1 : Int32)), (.int (1 : Int32))])) _
        refine XS.icmpNo X78.here hx rfl (hb hby at_167) rfl (teq (rfl : (1 : Int32) = (1 : Int32))).2 ?_
        show Steps p.tables e below (T78.setTop (mkF m 170 #[.val (.int p1), .val (.long p2), .second, .val (.int p3), .val (.int p4), .val (.int (0 : Int32)), .val .null, .val (.ref w_INTEGER), .val (.int (1 : Int32)), .val (.ref b61), .val (.ref b71), .val (.ref b73), .val (.int (1 : Int32))] [])) _
        refine XS.iconst X78.here hx rfl (hb hby at_170) ?_
        refine XS.goto X78.here hx rfl (pc0 := 171) (pc' := 175) rfl (hb hby at_171) (by decide) (by decide) ?_
        show Steps p.tables e below (T78.setTop (mkF m 175 #[.val (.int p1), .val (.long p2), .second, .val (.int p3), .val (.int p4), .val (.int (0 : Int32)), .val .null, .val (.ref w_INTEGER), .val (.int (1 : Int32)), .val (.ref b61), .val (.ref b71), .val (.ref b73), .val (.int (1 : Int32))] [(.int (1 : Int32))])) _
        exact retN X78 hx (t := .boolean) Bd.returns (by simp) (hb hby at_175) hr
  · rw [pr1] at hf1
    have pre79 : ∀ t, Steps p.tables e below (s₁.setTop (mkF m 44 #[.val (.int p1), .val (.long p2), .second, .val (.int p3), .val (.int p4), .val (.int (1 : Int32)), .unset, .unset, .unset, .unset, .unset, .unset, .unset] [(.long p2)])) t → Steps p.tables e below (s₁.setTop (entryFrame m #[(.int p1), (.long p2), (.int p3), (.int p4)] maxLocals)) t := by
      intro t kt
      refine pre1 _ ?_
      show Steps p.tables e below (s₁.setTop (mkF m 5 #[.val (.int p1), .val (.long p2), .second, .val (.int p3), .val (.int p4), .unset, .unset, .unset, .unset, .unset, .unset, .unset, .unset] [(.int (3 : Int32)), (.int y1)])) _
      refine iremM X0 hx rfl (hb hby at_5) rfl (by decide) ?_
      show Steps p.tables e below (s₁.setTop (mkF m 6 #[.val (.int p1), .val (.long p2), .second, .val (.int p3), .val (.int p4), .unset, .unset, .unset, .unset, .unset, .unset, .unset, .unset] [(.int (y1 % (3 : Int32)))])) _
      rw [hf1]
      show Steps p.tables e below (s₁.setTop (mkF m 6 #[.val (.int p1), .val (.long p2), .second, .val (.int p3), .val (.int p4), .unset, .unset, .unset, .unset, .unset, .unset, .unset, .unset] [(.int (1 : Int32))])) _
      refine XS.istore X0.here hx rfl (hb hby at_6) rfl (l' := #[.val (.int p1), .val (.long p2), .second, .val (.int p3), .val (.int p4), .val (.int (1 : Int32)), .unset, .unset, .unset, .unset, .unset, .unset, .unset]) rfl ?_
      refine XS.iload X0.here hx rfl (hb hby at_8) rfl ?_
      show Steps p.tables e below (s₁.setTop (mkF m 10 #[.val (.int p1), .val (.long p2), .second, .val (.int p3), .val (.int p4), .val (.int (1 : Int32)), .unset, .unset, .unset, .unset, .unset, .unset, .unset] [(.int (1 : Int32))])) _
      refine XS.ifYes X0.here hx rfl (pc0 := 10) (pc' := 37) rfl (hb hby at_10) rfl ((if0 _ _).trans (feq (by decide : ¬ ((1 : Int32) = (0 : Int32)))).2) (by decide) (by decide) ?_
      show Steps p.tables e below (s₁.setTop (mkF m 37 #[.val (.int p1), .val (.long p2), .second, .val (.int p3), .val (.int p4), .val (.int (1 : Int32)), .unset, .unset, .unset, .unset, .unset, .unset, .unset] [])) _
      refine XS.iload X0.here hx rfl (hb hby at_37) rfl ?_
      refine XS.iconst X0.here hx rfl (hb hby at_39) ?_
      show Steps p.tables e below (s₁.setTop (mkF m 40 #[.val (.int p1), .val (.long p2), .second, .val (.int p3), .val (.int p4), .val (.int (1 : Int32)), .unset, .unset, .unset, .unset, .unset, .unset, .unset] [(.int (1 : Int32)), (.int (1 : Int32))])) _
      refine XS.icmpNo X0.here hx rfl (hb hby at_40) rfl (teq (rfl : (1 : Int32) = (1 : Int32))).2 ?_
      show Steps p.tables e below (s₁.setTop (mkF m 43 #[.val (.int p1), .val (.long p2), .second, .val (.int p3), .val (.int p4), .val (.int (1 : Int32)), .unset, .unset, .unset, .unset, .unset, .unset, .unset] [])) _
      refine XS.lloadN X0.here hx rfl (hb hby at_43) rfl ?_
      exact kt
    by_cases hf79 : p2 < (-128 : Int64)
    · obtain ⟨_, _, ⟨T80, L80, k80, n80⟩, -, X80, ⟨Lc80, hQ80, l80, y80, z80⟩, st80⟩ := Jvm.LawKit.callS X0 hx (y := (⟨"java/lang/Long", "valueOf", "(J)Ljava/lang/Long;"⟩ : MethodName)) hown (mvT hZ (wd104 hw)) (mvT hZ (wd105 hw)) (mvT hZ (wd106 hw)) (mvT hZ (wd107 hw)) (by decide) (backOf (W := 0) (rm14_0 l Z a0 hw [] p2 h0 n0 OL0 hf79) hZ (wd107 hw) (wd106 hw) (by decide) (by decide)) (g := (mkF m 44 #[.val (.int p1), .val (.long p2), .second, .val (.int p3), .val (.int p4), .val (.int (1 : Int32)), .unset, .unset, .unset, .unset, .unset, .unset, .unset] [(.long p2)])) rfl (by rw [hml]; rfl) (argsL := [(.long p2)]) (rest := []) (lenOf pd_6 rfl) rfl (by show 2 * 0 + _ ≤ _; exact Nat.le_of_eq rfl) (hb hby at_44) (fun _ _ => ⟨rfl, e0, (by decide : 0 + 1 ≤ _), (by decide : 0 + 1 ≤ _)⟩)
      dsimp only [Pt.U, Pt.locs, Pt.cells, Pt.slots] at X80 l80 y80 z80 st80 hQ80
      subst l80 y80 z80
      obtain ⟨b80_0, rfl, Nq80, K80, u80_0, u80_1, u80_2⟩ := hQ80
      have KK80 : Keep h0 T80.heap [] := (Keep.refl h0 []).trans K80 all0
      have OL80 := OL0.keep K80 all0
      have g_b80_0 : n0 ≤ b80_0 := Nat.le_trans (Nat.le_trans (Nat.le_of_eq OL0.1.symm) OL0.2.1) u80_0
      have sz_b80_0 : h0.size ≤ b80_0 := Nat.le_trans (Keep.refl h0 []).1 u80_0
      have N80 := Fr.app N0 Nq80
      obtain ⟨T81, X81, e81, st81⟩ := getS2 X80 hx hZ hown (host := "") (Or.inl (wd124 hw)) Via.refl rfl (pr7.ext OL80.2) (g := (mkF m 49 #[.val (.int p1), .val (.long p2), .second, .val (.int p3), .val (.int p4), .val (.int (1 : Int32)), .val (.ref b80_0), .unset, .unset, .unset, .unset, .unset, .unset] [])) rfl (hb hby at_49)
      have pre82 : ∀ t, Steps p.tables e below (T81.setTop (mkF m 77 #[.val (.int p1), .val (.long p2), .second, .val (.int p3), .val (.int p4), .val (.int (1 : Int32)), .val (.ref b80_0), .val (.ref w_BIGINT), .unset, .unset, .unset, .unset, .unset] [(.int y3)])) t → Steps p.tables e below (s₁.setTop (entryFrame m #[(.int p1), (.long p2), (.int p3), (.int p4)] maxLocals)) t := by
        intro t kt
        refine pre79 _ ?_
        show Steps p.tables e below (s₁.setTop (mkF m 44 #[.val (.int p1), .val (.long p2), .second, .val (.int p3), .val (.int p4), .val (.int (1 : Int32)), .unset, .unset, .unset, .unset, .unset, .unset, .unset] [(.long p2)])) _
        refine st80 _ ?_
        show Steps p.tables e below (T80.setTop (mkF m 47 #[.val (.int p1), .val (.long p2), .second, .val (.int p3), .val (.int p4), .val (.int (1 : Int32)), .unset, .unset, .unset, .unset, .unset, .unset, .unset] [(.ref b80_0)])) _
        refine XS.astore X80.here hx rfl (hb hby at_47) rfl rfl (l' := #[.val (.int p1), .val (.long p2), .second, .val (.int p3), .val (.int p4), .val (.int (1 : Int32)), .val (.ref b80_0), .unset, .unset, .unset, .unset, .unset, .unset]) rfl ?_
        show Steps p.tables e below (T80.setTop (mkF m 49 #[.val (.int p1), .val (.long p2), .second, .val (.int p3), .val (.int p4), .val (.int (1 : Int32)), .val (.ref b80_0), .unset, .unset, .unset, .unset, .unset, .unset] [])) _
        refine st81 _ ?_
        show Steps p.tables e below (T81.setTop (mkF m 52 #[.val (.int p1), .val (.long p2), .second, .val (.int p3), .val (.int p4), .val (.int (1 : Int32)), .val (.ref b80_0), .unset, .unset, .unset, .unset, .unset, .unset] [(.ref w_BIGINT)])) _
        refine XS.astore X81.here hx rfl (hb hby at_52) rfl rfl (l' := #[.val (.int p1), .val (.long p2), .second, .val (.int p3), .val (.int p4), .val (.int (1 : Int32)), .val (.ref b80_0), .val (.ref w_BIGINT), .unset, .unset, .unset, .unset, .unset]) rfl ?_
        refine XS.goto X81.here hx rfl (pc0 := 54) (pc' := 73) rfl (hb hby at_54) (by decide) (by decide) ?_
        refine XS.iload X81.here hx rfl (hb hby at_73) rfl ?_
        refine XS.iconst X81.here hx rfl (hb hby at_75) ?_
        show Steps p.tables e below (T81.setTop (mkF m 76 #[.val (.int p1), .val (.long p2), .second, .val (.int p3), .val (.int p4), .val (.int (1 : Int32)), .val (.ref b80_0), .val (.ref w_BIGINT), .unset, .unset, .unset, .unset, .unset] [(.int (1 : Int32)), (.int p4)])) _
        refine XS.iand X81.here hx rfl (hb hby at_76) rfl ?_
        show Steps p.tables e below (T81.setTop (mkF m 77 #[.val (.int p1), .val (.long p2), .second, .val (.int p3), .val (.int p4), .val (.int (1 : Int32)), .val (.ref b80_0), .val (.ref w_BIGINT), .unset, .unset, .unset, .unset, .unset] [(.int (p4 &&& (1 : Int32)))])) _
        rw [pr4]
        exact kt
      by_cases hf82 : y3 = (0 : Int32)
      · obtain ⟨T83, h83, X83, e83, E83, A83, D83, -, st83⟩ := newO X81 hx hZ hown (wd4 hw) (wd5 hw) (wd6 hw) e81 (g := (mkF m 87 #[.val (.int p1), .val (.long p2), .second, .val (.int p3), .val (.int p4), .val (.int (1 : Int32)), .val (.ref b80_0), .val (.ref w_BIGINT), .val (.int (0 : Int32)), .unset, .unset, .unset, .unset] [])) rfl (hb hby at_87) (by decide) (by decide)
        obtain ⟨b83, g83⟩ : ∃ z, z = T80.heap.size := ⟨_, rfl⟩
        rw [← g83] at A83 D83 st83
        have g_b83 : n0 ≤ b83 := (Nat.le_trans (Nat.le_trans (Nat.le_of_eq OL80.1.symm) OL80.2.1) (Nat.le_of_eq g83.symm))
        have sz_b83 : h0.size ≤ b83 := (Nat.le_trans KK80.1 (Nat.le_of_eq g83.symm))
        have KK83 : Keep h0 h83 [] := KK80.ext E83
        have OL83 := OL80.ext E83
        have F_name_b83 : Fld Z h83 b83 "com/example/rowforge/rowforge/Column" "name" "Ljava/lang/String;" .null := D83 (Or.inr (wd27 hw)) (ty := (.object "java/lang/String")) (by decide)
        have F_position_b83 : Fld Z h83 b83 "com/example/rowforge/rowforge/Column" "position" "I" (.int (0 : Int32)) := D83 (Or.inr (wd29 hw)) (ty := .int) (by decide)
        have F_type_b83 : Fld Z h83 b83 "com/example/rowforge/rowforge/Column" "type" "Lcom/example/rowforge/rowforge/SqlType;" .null := D83 (Or.inr (wd31 hw)) (ty := (.object "com/example/rowforge/rowforge/SqlType")) (by decide)
        have F_length_b83 : Fld Z h83 b83 "com/example/rowforge/rowforge/Column" "length" "I" (.int (0 : Int32)) := D83 (Or.inr (wd33 hw)) (ty := .int) (by decide)
        have F_scale_b83 : Fld Z h83 b83 "com/example/rowforge/rowforge/Column" "scale" "I" (.int (0 : Int32)) := D83 (Or.inr (wd35 hw)) (ty := .int) (by decide)
        have F_nullable_b83 : Fld Z h83 b83 "com/example/rowforge/rowforge/Column" "nullable" "Z" (.int (0 : Int32)) := D83 (Or.inr (wd37 hw)) (ty := .boolean) (by decide)
        obtain ⟨b84, T84, h84, k84, X84, e84, E84, hS84, hk84, hZ84, hown84, st84⟩ := ldcS (s := s) (vm0 := s.vm) X83 hx hZ hown (wd7 hw) (own_wS hw) e83 ((State.WarmedH.refl s).since 0) (Nat.le_trans (Nat.le_trans (Nat.zero_le _) K80.1) E83.1) (g := (mkF m 91 #[.val (.int p1), .val (.long p2), .second, .val (.int p3), .val (.int p4), .val (.int (1 : Int32)), .val (.ref b80_0), .val (.ref w_BIGINT), .val (.int (0 : Int32)), .unset, .unset, .unset, .unset] [(.ref b83), (.ref b83)])) rfl (hb hby at_91) (n := 32) (by decide) (by decide) (by decide) (by decide)
        have KK84 : Keep h0 h84 [] := KK83.ext E84
        have OL84 := OL83.ext E84
        have fc86 := (A83.ext E84)
        have fc87 := (F_name_b83.ext E84)
        have fc88 := (F_position_b83.ext E84)
        have fc89 := (F_type_b83.ext E84)
        have fc90 := (F_length_b83.ext E84)
        have fc91 := (F_scale_b83.ext E84)
        have fc92 := (F_nullable_b83.ext E84)
        obtain ⟨_, _, ⟨T85, L85, k85, n85⟩, -, X85, ⟨Lc85, hQ85, l85, y85, z85⟩, st85⟩ := X84.specialBack hx (y := (⟨"com/example/rowforge/rowforge/Column", "<init>", "(Ljava/lang/String;ILcom/example/rowforge/rowforge/SqlType;IIZ)V"⟩ : MethodName)) rfl hown84 (mvT hZ84 (wd15 hw)) (mvT hZ84 (wd16 hw)) (mvT hZ84 (wd17 hw)) (by decide) (backOf (W := 1) (rm1_0 l Z a0 hw [] b83 b84 w_BIGINT h84 n0 OL84 fc86 fc87 g_b83 fc88 fc89 fc90 fc91 fc92) hZ84 (wd17 hw) (wd6 hw) (by decide) (by decide)) (g := (mkF m 101 #[.val (.int p1), .val (.long p2), .second, .val (.int p3), .val (.int p4), .val (.int (1 : Int32)), .val (.ref b80_0), .val (.ref w_BIGINT), .val (.int (0 : Int32)), .unset, .unset, .unset, .unset] [(.int (0 : Int32)), (.int (0 : Int32)), (.int (2147483647 : Int32)), (.ref w_BIGINT), (.int (-1 : Int32)), (.ref b84), (.ref b83), (.ref b83)])) rfl (by rw [hml]; rfl) (Steps.refl _) (a := b83) (argsL := [(.ref b84), (.int (-1 : Int32)), (.ref w_BIGINT), (.int (2147483647 : Int32)), (.int (0 : Int32)), (.int (0 : Int32))]) (rest := [(.ref b83)]) (lenOf pd_1 rfl) rfl (by show 2 * 0 + _ ≤ _; exact Nat.le_of_eq rfl) (hb hby at_101) (fun _ _ => ⟨rfl, e84, (by decide : 4 + 0 ≤ _), (by decide : 43 + 0 ≤ _)⟩)
        dsimp only [Pt.U, Pt.locs, Pt.cells, Pt.slots] at X85 l85 y85 z85 st85 hQ85
        subst l85 y85 z85
        obtain ⟨rfl, Nq85, K85, u85_0, u85_1, u85_2, u85_3, u85_4, u85_5⟩ := hQ85
        have KK85 : Keep h0 T85.heap [] := KK84.trans K85 (allS (Or.inr sz_b83) all0)
        have OL85 := OL84.keep K85 (allS g_b83 all0)
        have N85 := Fr.app N80 Nq85
        obtain ⟨T93, h93, X93, e93, E93, A93, D93, -, st93⟩ := newO X85 hx hZ84 hown84 (wd38 hw) (wd39 hw) (wd40 hw) rfl (g := (mkF m 106 #[.val (.int p1), .val (.long p2), .second, .val (.int p3), .val (.int p4), .val (.int (1 : Int32)), .val (.ref b80_0), .val (.ref w_BIGINT), .val (.int (0 : Int32)), .val (.ref b83), .unset, .unset, .unset] [])) rfl (hb hby at_106) (by decide) (by decide)
        obtain ⟨b93, g93⟩ : ∃ z, z = T85.heap.size := ⟨_, rfl⟩
        rw [← g93] at A93 D93 st93
        have g_b93 : n0 ≤ b93 := (Nat.le_trans (Nat.le_trans (Nat.le_of_eq OL85.1.symm) OL85.2.1) (Nat.le_of_eq g93.symm))
        have sz_b93 : h0.size ≤ b93 := (Nat.le_trans KK85.1 (Nat.le_of_eq g93.symm))
        have KK93 : Keep h0 h93 [] := KK85.ext E93
        have OL93 := OL85.ext E93
        have F_value_b93 : Fld Z h93 b93 "com/example/rowforge/rowforge/Field$Constant" "value" "Ljava/lang/Object;" .null := D93 (Or.inr (wd46 hw)) (ty := (.object "java/lang/Object")) (by decide)
        have F_column_b93 : Fld Z h93 b93 "com/example/rowforge/rowforge/Field$Constant" "column" "Lcom/example/rowforge/rowforge/Column;" .null := D93 (Or.inr (wd48 hw)) (ty := (.object "com/example/rowforge/rowforge/Column")) (by decide)
        obtain ⟨_, _, ⟨T94, L94, k94, n94⟩, -, X94, ⟨Lc94, hQ94, l94, y94, z94⟩, st94⟩ := X93.specialBack hx (y := (⟨"com/example/rowforge/rowforge/Field$Constant", "<init>", "(Ljava/lang/Object;Lcom/example/rowforge/rowforge/Column;)V"⟩ : MethodName)) rfl hown84 (mvT hZ84 (wd41 hw)) (mvT hZ84 (wd42 hw)) (mvT hZ84 (wd43 hw)) (by decide) (backOf (W := 1) (rm4_1 l Z a0 hw [] b93 b80_0 b83 h93 n0 OL93 A93 F_value_b93 g_b93 F_column_b93) hZ84 (wd43 hw) (wd40 hw) (by decide) (by decide)) (g := (mkF m 114 #[.val (.int p1), .val (.long p2), .second, .val (.int p3), .val (.int p4), .val (.int (1 : Int32)), .val (.ref b80_0), .val (.ref w_BIGINT), .val (.int (0 : Int32)), .val (.ref b83), .unset, .unset, .unset] [(.ref b83), (.ref b80_0), (.ref b93), (.ref b93)])) rfl (by rw [hml]; rfl) (Steps.refl _) (a := b93) (argsL := [(.ref b80_0), (.ref b83)]) (rest := [(.ref b93)]) (lenOf pd_2 rfl) rfl (by show 2 * 0 + _ ≤ _; exact Nat.le_of_eq rfl) (hb hby at_114) (fun _ _ => ⟨rfl, e93, (by decide : 5 + 0 ≤ _), (by decide : 45 + 0 ≤ _)⟩)
        dsimp only [Pt.U, Pt.locs, Pt.cells, Pt.slots] at X94 l94 y94 z94 st94 hQ94
        subst l94 y94 z94
        obtain ⟨rfl, Nq94, K94, u94_0, u94_1⟩ := hQ94
        have KK94 : Keep h0 T94.heap [] := KK93.trans K94 (allS (Or.inr sz_b93) all0)
        have OL94 := OL93.keep K94 (allS g_b93 all0)
        have N94 := Fr.app N85 Nq94
        obtain ⟨T95, h95, X95, e95, E95, A95, D95, -, st95⟩ := newO X94 hx hZ84 hown84 (wd49 hw) (wd50 hw) (wd51 hw) rfl (g := (mkF m 119 #[.val (.int p1), .val (.long p2), .second, .val (.int p3), .val (.int p4), .val (.int (1 : Int32)), .val (.ref b80_0), .val (.ref w_BIGINT), .val (.int (0 : Int32)), .val (.ref b83), .val (.ref b93), .unset, .unset] [])) rfl (hb hby at_119) (by decide) (by decide)
        obtain ⟨b95, g95⟩ : ∃ z, z = T94.heap.size := ⟨_, rfl⟩
        rw [← g95] at A95 D95 st95
        have g_b95 : n0 ≤ b95 := (Nat.le_trans (Nat.le_trans (Nat.le_of_eq OL94.1.symm) OL94.2.1) (Nat.le_of_eq g95.symm))
        have sz_b95 : h0.size ≤ b95 := (Nat.le_trans KK94.1 (Nat.le_of_eq g95.symm))
        have KK95 : Keep h0 h95 [] := KK94.ext E95
        have OL95 := OL94.ext E95
        have F_modCount_b95 : Fld Z h95 b95 "java/util/AbstractList" "modCount" "I" (.int (0 : Int32)) := D95 (Or.inl (wd69 hw)) (ty := .int) (by decide)
        have F_elementData_b95 : Fld Z h95 b95 "java/util/ArrayList" "elementData" "[Ljava/lang/Object;" .null := D95 (Or.inl (wd72 hw)) (ty := (.array (.object "java/lang/Object"))) (by decide)
        obtain ⟨_, _, ⟨T96, L96, k96, n96⟩, -, X96, ⟨Lc96, hQ96, l96, y96, z96⟩, st96⟩ := X95.specialBack hx (y := (⟨"java/util/ArrayList", "<init>", "()V"⟩ : MethodName)) rfl hown84 (mvT hZ84 (wd52 hw)) (mvT hZ84 (wd53 hw)) (mvT hZ84 (wd54 hw)) (by decide) (backOf (W := 1) (rm5_0 l Z a0 hw [] b95 w_DEFAULTCAPACITY_EMPTY_ELEMENTDATA h95 n0 OL95 A95 F_modCount_b95 g_b95 F_elementData_b95 pr5) hZ84 (wd54 hw) (wd51 hw) (by decide) (by decide)) (g := (mkF m 123 #[.val (.int p1), .val (.long p2), .second, .val (.int p3), .val (.int p4), .val (.int (1 : Int32)), .val (.ref b80_0), .val (.ref w_BIGINT), .val (.int (0 : Int32)), .val (.ref b83), .val (.ref b93), .unset, .unset] [(.ref b95), (.ref b95)])) rfl (by rw [hml]; rfl) (Steps.refl _) (a := b95) (argsL := []) (rest := [(.ref b95)]) (lenOf pd_0 rfl) rfl (by show 2 * 0 + _ ≤ _; exact Nat.le_of_eq rfl) (hb hby at_123) (fun _ _ => ⟨rfl, e95, (by decide : 6 + 0 ≤ _), (by decide : 48 + 0 ≤ _)⟩)
        dsimp only [Pt.U, Pt.locs, Pt.cells, Pt.slots] at X96 l96 y96 z96 st96 hQ96
        subst l96 y96 z96
        obtain ⟨rfl, Nq96, K96, u96_0, u96_1⟩ := hQ96
        have KK96 : Keep h0 T96.heap [] := KK95.trans K96 (allS (Or.inr sz_b95) all0)
        have OL96 := OL95.keep K96 (allS g_b95 all0)
        have N96 := Fr.app N94 Nq96
        have fc98 := ((u94_0.ext E95).keep K96 (ninS (Nat.ne_of_lt (Nat.lt_of_lt_of_le u94_1.lt (Nat.le_of_eq g95.symm))) nin0))
        have fc99 := (((A93.keep K94).ext E95).keep K96)
        obtain ⟨cq97, kq97, q97a, q97b, q97c⟩ := isOf hZ84 rfl fc99
        obtain ⟨_, _, ⟨T97, L97, k97, n97⟩, -, X97, ⟨Lc97, hQ97, l97, y97, z97⟩, st97⟩ := X96.virtualBack hx (y := (⟨"com/example/rowforge/rowforge/Field$Constant", "nullable", "()Z"⟩ : MethodName)) (z := (⟨"com/example/rowforge/rowforge/Field$Constant", "nullable", "()Z"⟩ : MethodName)) hown84 (mvT hZ84 (wd73 hw)) (mvT hZ84 (wd74 hw)) (notFace_of_selects (args := #[]) (mvT hZ84 (wd76 hw))) (mvT hZ84 (wd76 hw)) (mvT hZ84 (wd75 hw)) (by decide) (backOf (W := 0) (rm8_1 l Z a0 hw [] b93 b80_0 T96.heap n0 OL96 fc98) hZ84 (wd77 hw) (wd40 hw) (by decide) (by decide)) q97a q97c (g := (mkF m 130 #[.val (.int p1), .val (.long p2), .second, .val (.int p3), .val (.int p4), .val (.int (1 : Int32)), .val (.ref b80_0), .val (.ref w_BIGINT), .val (.int (0 : Int32)), .val (.ref b83), .val (.ref b93), .val (.ref b95), .unset] [(.ref b93)])) rfl (by rw [hml]; rfl) (Steps.refl _) (argsL := []) (rest := []) (lenOf pd_3 rfl) rfl (by show 2 * 0 + _ ≤ _; exact Nat.le_of_eq rfl) (hb hby at_130) (fun _ _ => ⟨rfl, rfl, (by decide : 6 + 0 ≤ _), (by decide : 48 + 0 ≤ _)⟩)
        dsimp only [Pt.U, Pt.locs, Pt.cells, Pt.slots] at X97 l97 y97 z97 st97 hQ97
        subst l97 y97 z97
        obtain ⟨rfl, Nq97, ec97⟩ := hQ97
        have N97 := Fr.app N96 Nq97
        obtain ⟨cq100, kq100, q100a, q100b, q100c⟩ := isOf hZ84 ec97 fc99
        obtain ⟨_, _, ⟨T100, L100, k100, n100⟩, -, X100, ⟨Lc100, hQ100, l100, y100, z100⟩, st100⟩ := X97.virtualBack hx (y := (⟨"com/example/rowforge/rowforge/Field$Constant", "value", "(Ljava/util/List;)Ljava/lang/Object;"⟩ : MethodName)) (z := (⟨"com/example/rowforge/rowforge/Field$Constant", "value", "(Ljava/util/List;)Ljava/lang/Object;"⟩ : MethodName)) hown84 (mvT hZ84 (wd78 hw)) (mvT hZ84 (wd79 hw)) (notFace_of_selects (args := #[]) (mvT hZ84 (wd81 hw))) (mvT hZ84 (wd81 hw)) (mvT hZ84 (wd80 hw)) (by decide) (backOf (W := 1) (rm9_1 l Z a0 hw [] b93 b95 b80_0 T96.heap n0 OL96 fc98) hZ84 (wd82 hw) (wd40 hw) (by decide) (by decide)) q100a q100c (g := (mkF m 156 #[.val (.int p1), .val (.long p2), .second, .val (.int p3), .val (.int p4), .val (.int (1 : Int32)), .val (.ref b80_0), .val (.ref w_BIGINT), .val (.int (0 : Int32)), .val (.ref b83), .val (.ref b93), .val (.ref b95), .val (.int (0 : Int32))] [(.ref b95), (.ref b93), (.int (0 : Int32))])) rfl (by rw [hml]; rfl) (Steps.refl _) (argsL := [(.ref b95)]) (rest := [(.int (0 : Int32))]) (lenOf pd_4 rfl) rfl (by show 2 * 0 + _ ≤ _; exact Nat.le_of_eq rfl) (hb hby at_156) (fun _ _ => ⟨rfl, ec97, (by decide : 6 + 0 ≤ _), (by decide : 48 + 0 ≤ _)⟩)
        dsimp only [Pt.U, Pt.locs, Pt.cells, Pt.slots] at X100 l100 y100 z100 st100 hQ100
        subst l100 y100 z100
        obtain ⟨rfl, Nq100, ec100⟩ := hQ100
        have N100 := Fr.app N97 Nq100
        obtain ⟨fs, hr, hrun, hended, hRW⟩ := X100.leaveW (s := s) hS84 (by rw [ec100]; exact (Nat.le_trans (Nat.le_trans (Nat.le_trans (Nat.le_trans (Nat.le_trans hk84 K85.1) E93.1) K94.1) E95.1) K96.1)) (v := some (.int (1 : Int32))) (fun h => by rw [Bd.returns] at h; cases h)
        refine ⟨_, _, pre82 _ ?_, hrun, hended, _, _, rfl, ⟨rfl, N100⟩, hRW.1, hRW.2.1, hRW.2.2.1, hRW.2.2.2.mono (by decide) (by decide)⟩
        show Steps p.tables e below (T81.setTop (mkF m 77 #[.val (.int p1), .val (.long p2), .second, .val (.int p3), .val (.int p4), .val (.int (1 : Int32)), .val (.ref b80_0), .val (.ref w_BIGINT), .unset, .unset, .unset, .unset, .unset] [(.int y3)])) _
        refine XS.ifYes X81.here hx rfl (pc0 := 77) (pc' := 84) rfl (hb hby at_77) rfl ((if0 _ _).trans (teq hf82).1) (by decide) (by decide) ?_
        show Steps p.tables e below (T81.setTop (mkF m 84 #[.val (.int p1), .val (.long p2), .second, .val (.int p3), .val (.int p4), .val (.int (1 : Int32)), .val (.ref b80_0), .val (.ref w_BIGINT), .unset, .unset, .unset, .unset, .unset] [])) _
        refine XS.iconst X81.here hx rfl (hb hby at_84) ?_
        refine XS.istore X81.here hx rfl (hb hby at_85) rfl (l' := #[.val (.int p1), .val (.long p2), .second, .val (.int p3), .val (.int p4), .val (.int (1 : Int32)), .val (.ref b80_0), .val (.ref w_BIGINT), .val (.int (0 : Int32)), .unset, .unset, .unset, .unset]) rfl ?_
        show Steps p.tables e below (T81.setTop (mkF m 87 #[.val (.int p1), .val (.long p2), .second, .val (.int p3), .val (.int p4), .val (.int (1 : Int32)), .val (.ref b80_0), .val (.ref w_BIGINT), .val (.int (0 : Int32)), .unset, .unset, .unset, .unset] [])) _
        refine st83 _ ?_
        show Steps p.tables e below (T83.setTop (mkF m 90 #[.val (.int p1), .val (.long p2), .second, .val (.int p3), .val (.int p4), .val (.int (1 : Int32)), .val (.ref b80_0), .val (.ref w_BIGINT), .val (.int (0 : Int32)), .unset, .unset, .unset, .unset] [(.ref b83)])) _
        refine XS.dup X83.here hx rfl (hb hby at_90) rfl rfl ?_
        refine st84 _ ?_
        refine XS.iconst X84.here hx rfl (hb hby at_93) ?_
        refine XS.aload X84.here hx rfl (hb hby at_94) rfl rfl ?_
        show Steps p.tables e below (T84.setTop (mkF m 96 #[.val (.int p1), .val (.long p2), .second, .val (.int p3), .val (.int p4), .val (.int (1 : Int32)), .val (.ref b80_0), .val (.ref w_BIGINT), .val (.int (0 : Int32)), .unset, .unset, .unset, .unset] [(.ref w_BIGINT), (.int (-1 : Int32)), (.ref b84), (.ref b83), (.ref b83)])) _
        refine X84.ldcInt hx hown84 (mvT hZ84 (wd0 hw)) (g := (mkF m 96 #[.val (.int p1), .val (.long p2), .second, .val (.int p3), .val (.int p4), .val (.int (1 : Int32)), .val (.ref b80_0), .val (.ref w_BIGINT), .val (.int (0 : Int32)), .unset, .unset, .unset, .unset] [(.ref w_BIGINT), (.int (-1 : Int32)), (.ref b84), (.ref b83), (.ref b83)])) rfl (hb hby at_96) _ ?_
        refine XS.iconst X84.here hx rfl (hb hby at_98) ?_
        refine XS.iload X84.here hx rfl (hb hby at_99) rfl ?_
        show Steps p.tables e below (T84.setTop (mkF m 101 #[.val (.int p1), .val (.long p2), .second, .val (.int p3), .val (.int p4), .val (.int (1 : Int32)), .val (.ref b80_0), .val (.ref w_BIGINT), .val (.int (0 : Int32)), .unset, .unset, .unset, .unset] [(.int (0 : Int32)), (.int (0 : Int32)), (.int (2147483647 : Int32)), (.ref w_BIGINT), (.int (-1 : Int32)), (.ref b84), (.ref b83), (.ref b83)])) _
        refine st85.trans ?_
        show Steps p.tables e below (T85.setTop (mkF m 104 #[.val (.int p1), .val (.long p2), .second, .val (.int p3), .val (.int p4), .val (.int (1 : Int32)), .val (.ref b80_0), .val (.ref w_BIGINT), .val (.int (0 : Int32)), .unset, .unset, .unset, .unset] [(.ref b83)])) _
        refine XS.astore X85.here hx rfl (hb hby at_104) rfl rfl (l' := #[.val (.int p1), .val (.long p2), .second, .val (.int p3), .val (.int p4), .val (.int (1 : Int32)), .val (.ref b80_0), .val (.ref w_BIGINT), .val (.int (0 : Int32)), .val (.ref b83), .unset, .unset, .unset]) rfl ?_
        show Steps p.tables e below (T85.setTop (mkF m 106 #[.val (.int p1), .val (.long p2), .second, .val (.int p3), .val (.int p4), .val (.int (1 : Int32)), .val (.ref b80_0), .val (.ref w_BIGINT), .val (.int (0 : Int32)), .val (.ref b83), .unset, .unset, .unset] [])) _
        refine st93 _ ?_
        show Steps p.tables e below (T93.setTop (mkF m 109 #[.val (.int p1), .val (.long p2), .second, .val (.int p3), .val (.int p4), .val (.int (1 : Int32)), .val (.ref b80_0), .val (.ref w_BIGINT), .val (.int (0 : Int32)), .val (.ref b83), .unset, .unset, .unset] [(.ref b93)])) _
        refine XS.dup X93.here hx rfl (hb hby at_109) rfl rfl ?_
        refine XS.aload X93.here hx rfl (hb hby at_110) rfl rfl ?_
        refine XS.aload X93.here hx rfl (hb hby at_112) rfl rfl ?_
        show Steps p.tables e below (T93.setTop (mkF m 114 #[.val (.int p1), .val (.long p2), .second, .val (.int p3), .val (.int p4), .val (.int (1 : Int32)), .val (.ref b80_0), .val (.ref w_BIGINT), .val (.int (0 : Int32)), .val (.ref b83), .unset, .unset, .unset] [(.ref b83), (.ref b80_0), (.ref b93), (.ref b93)])) _
        refine st94.trans ?_
        show Steps p.tables e below (T94.setTop (mkF m 117 #[.val (.int p1), .val (.long p2), .second, .val (.int p3), .val (.int p4), .val (.int (1 : Int32)), .val (.ref b80_0), .val (.ref w_BIGINT), .val (.int (0 : Int32)), .val (.ref b83), .unset, .unset, .unset] [(.ref b93)])) _
        refine XS.astore X94.here hx rfl (hb hby at_117) rfl rfl (l' := #[.val (.int p1), .val (.long p2), .second, .val (.int p3), .val (.int p4), .val (.int (1 : Int32)), .val (.ref b80_0), .val (.ref w_BIGINT), .val (.int (0 : Int32)), .val (.ref b83), .val (.ref b93), .unset, .unset]) rfl ?_
        show Steps p.tables e below (T94.setTop (mkF m 119 #[.val (.int p1), .val (.long p2), .second, .val (.int p3), .val (.int p4), .val (.int (1 : Int32)), .val (.ref b80_0), .val (.ref w_BIGINT), .val (.int (0 : Int32)), .val (.ref b83), .val (.ref b93), .unset, .unset] [])) _
        refine st95 _ ?_
        show Steps p.tables e below (T95.setTop (mkF m 122 #[.val (.int p1), .val (.long p2), .second, .val (.int p3), .val (.int p4), .val (.int (1 : Int32)), .val (.ref b80_0), .val (.ref w_BIGINT), .val (.int (0 : Int32)), .val (.ref b83), .val (.ref b93), .unset, .unset] [(.ref b95)])) _
        refine XS.dup X95.here hx rfl (hb hby at_122) rfl rfl ?_
        show Steps p.tables e below (T95.setTop (mkF m 123 #[.val (.int p1), .val (.long p2), .second, .val (.int p3), .val (.int p4), .val (.int (1 : Int32)), .val (.ref b80_0), .val (.ref w_BIGINT), .val (.int (0 : Int32)), .val (.ref b83), .val (.ref b93), .unset, .unset] [(.ref b95), (.ref b95)])) _
        refine st96.trans ?_
        show Steps p.tables e below (T96.setTop (mkF m 126 #[.val (.int p1), .val (.long p2), .second, .val (.int p3), .val (.int p4), .val (.int (1 : Int32)), .val (.ref b80_0), .val (.ref w_BIGINT), .val (.int (0 : Int32)), .val (.ref b83), .val (.ref b93), .unset, .unset] [(.ref b95)])) _
        refine XS.astore X96.here hx rfl (hb hby at_126) rfl rfl (l' := #[.val (.int p1), .val (.long p2), .second, .val (.int p3), .val (.int p4), .val (.int (1 : Int32)), .val (.ref b80_0), .val (.ref w_BIGINT), .val (.int (0 : Int32)), .val (.ref b83), .val (.ref b93), .val (.ref b95), .unset]) rfl ?_
        refine XS.aload X96.here hx rfl (hb hby at_128) rfl rfl ?_
        show Steps p.tables e below (T96.setTop (mkF m 130 #[.val (.int p1), .val (.long p2), .second, .val (.int p3), .val (.int p4), .val (.int (1 : Int32)), .val (.ref b80_0), .val (.ref w_BIGINT), .val (.int (0 : Int32)), .val (.ref b83), .val (.ref b93), .val (.ref b95), .unset] [(.ref b93)])) _
        refine st97.trans ?_
        show Steps p.tables e below (T97.setTop (mkF m 133 #[.val (.int p1), .val (.long p2), .second, .val (.int p3), .val (.int p4), .val (.int (1 : Int32)), .val (.ref b80_0), .val (.ref w_BIGINT), .val (.int (0 : Int32)), .val (.ref b83), .val (.ref b93), .val (.ref b95), .unset] [(.int (0 : Int32))])) _
        refine XS.istore X97.here hx rfl (hb hby at_133) rfl (l' := #[.val (.int p1), .val (.long p2), .second, .val (.int p3), .val (.int p4), .val (.int (1 : Int32)), .val (.ref b80_0), .val (.ref w_BIGINT), .val (.int (0 : Int32)), .val (.ref b83), .val (.ref b93), .val (.ref b95), .val (.int (0 : Int32))]) rfl ?_
        refine XS.iload X97.here hx rfl (hb hby at_135) rfl ?_
        refine XS.iload X97.here hx rfl (hb hby at_137) rfl ?_
        show Steps p.tables e below (T97.setTop (mkF m 139 #[.val (.int p1), .val (.long p2), .second, .val (.int p3), .val (.int p4), .val (.int (1 : Int32)), .val (.ref b80_0), .val (.ref w_BIGINT), .val (.int (0 : Int32)), .val (.ref b83), .val (.ref b93), .val (.ref b95), .val (.int (0 : Int32))] [(.int (1 : Int32)), (.int (0 : Int32))])) _
        refine XS.ifYes X97.here hx rfl (pc0 := 139) (pc' := 146) rfl (hb hby at_139) rfl ((if0 _ _).trans (feq (by decide : ¬ ((1 : Int32) = (0 : Int32)))).2) (by decide) (by decide) ?_
        show Steps p.tables e below (T97.setTop (mkF m 146 #[.val (.int p1), .val (.long p2), .second, .val (.int p3), .val (.int p4), .val (.int (1 : Int32)), .val (.ref b80_0), .val (.ref w_BIGINT), .val (.int (0 : Int32)), .val (.ref b83), .val (.ref b93), .val (.ref b95), .val (.int (0 : Int32))] [(.int (0 : Int32))])) _
        refine XS.iconst X97.here hx rfl (hb hby at_146) ?_
        show Steps p.tables e below (T97.setTop (mkF m 147 #[.val (.int p1), .val (.long p2), .second, .val (.int p3), .val (.int p4), .val (.int (1 : Int32)), .val (.ref b80_0), .val (.ref w_BIGINT), .val (.int (0 : Int32)), .val (.ref b83), .val (.ref b93), .val (.ref b95), .val (.int (0 : Int32))] [(.int (0 : Int32)), (.int (0 : Int32))])) _
        refine XS.icmpNo X97.here hx rfl (hb hby at_147) rfl (teq (rfl : (0 : Int32) = (0 : Int32))).2 ?_
        show Steps p.tables e below (T97.setTop (mkF m 150 #[.val (.int p1), .val (.long p2), .second, .val (.int p3), .val (.int p4), .val (.int (1 : Int32)), .val (.ref b80_0), .val (.ref w_BIGINT), .val (.int (0 : Int32)), .val (.ref b83), .val (.ref b93), .val (.ref b95), .val (.int (0 : Int32))] [])) _
        refine XS.iload X97.here hx rfl (hb hby at_150) rfl ?_
        refine XS.aload X97.here hx rfl (hb hby at_152) rfl rfl ?_
        refine XS.aload X97.here hx rfl (hb hby at_154) rfl rfl ?_
        show Steps p.tables e below (T97.setTop (mkF m 156 #[.val (.int p1), .val (.long p2), .second, .val (.int p3), .val (.int p4), .val (.int (1 : Int32)), .val (.ref b80_0), .val (.ref w_BIGINT), .val (.int (0 : Int32)), .val (.ref b83), .val (.ref b93), .val (.ref b95), .val (.int (0 : Int32))] [(.ref b95), (.ref b93), (.int (0 : Int32))])) _
        refine st100.trans ?_
        show Steps p.tables e below (T100.setTop (mkF m 159 #[.val (.int p1), .val (.long p2), .second, .val (.int p3), .val (.int p4), .val (.int (1 : Int32)), .val (.ref b80_0), .val (.ref w_BIGINT), .val (.int (0 : Int32)), .val (.ref b83), .val (.ref b93), .val (.ref b95), .val (.int (0 : Int32))] [(.ref b80_0), (.int (0 : Int32))])) _
        refine XS.ifnonnullYes X100.here hx rfl (pc0 := 159) (pc' := 166) rfl (hb hby at_159) rfl (by decide) (by decide) ?_
        show Steps p.tables e below (T100.setTop (mkF m 166 #[.val (.int p1), .val (.long p2), .second, .val (.int p3), .val (.int p4), .val (.int (1 : Int32)), .val (.ref b80_0), .val (.ref w_BIGINT), .val (.int (0 : Int32)), .val (.ref b83), .val (.ref b93), .val (.ref b95), .val (.int (0 : Int32))] [(.int (0 : Int32))])) _
        refine XS.iconst X100.here hx rfl (hb hby at_166) ?_
        show Steps p.tables e below (T100.setTop (mkF m 167 #[.val (.int p1), .val (.long p2), .second, .val (.int p3), .val (.int p4), .val (.int (1 : Int32)), .val (.ref b80_0), .val (.ref w_BIGINT), .val (.int (0 : Int32)), .val (.ref b83), .val (.ref b93), .val (.ref b95), .val (.int (0 : Int32))] [(.int (0 : Int32)), (.int (0 : Int32))])) _
        refine XS.icmpNo X100.here hx rfl (hb hby at_167) rfl (teq (rfl : (0 : Int32) = (0 : Int32))).2 ?_
        show Steps p.tables e below (T100.setTop (mkF m 170 #[.val (.int p1), .val (.long p2), .second, .val (.int p3), .val (.int p4), .val (.int (1 : Int32)), .val (.ref b80_0), .val (.ref w_BIGINT), .val (.int (0 : Int32)), .val (.ref b83), .val (.ref b93), .val (.ref b95), .val (.int (0 : Int32))] [])) _
        refine XS.iconst X100.here hx rfl (hb hby at_170) ?_
        refine XS.goto X100.here hx rfl (pc0 := 171) (pc' := 175) rfl (hb hby at_171) (by decide) (by decide) ?_
        show Steps p.tables e below (T100.setTop (mkF m 175 #[.val (.int p1), .val (.long p2), .second, .val (.int p3), .val (.int p4), .val (.int (1 : Int32)), .val (.ref b80_0), .val (.ref w_BIGINT), .val (.int (0 : Int32)), .val (.ref b83), .val (.ref b93), .val (.ref b95), .val (.int (0 : Int32))] [(.int (1 : Int32))])) _
        exact retN X100 hx (t := .boolean) Bd.returns (by simp) (hb hby at_175) hr
      · obtain ⟨T101, h101, X101, e101, E101, A101, D101, -, st101⟩ := newO X81 hx hZ hown (wd4 hw) (wd5 hw) (wd6 hw) e81 (g := (mkF m 87 #[.val (.int p1), .val (.long p2), .second, .val (.int p3), .val (.int p4), .val (.int (1 : Int32)), .val (.ref b80_0), .val (.ref w_BIGINT), .val (.int (1 : Int32)), .unset, .unset, .unset, .unset] [])) rfl (hb hby at_87) (by decide) (by decide)
        obtain ⟨b101, g101⟩ : ∃ z, z = T80.heap.size := ⟨_, rfl⟩
        rw [← g101] at A101 D101 st101
        have g_b101 : n0 ≤ b101 := (Nat.le_trans (Nat.le_trans (Nat.le_of_eq OL80.1.symm) OL80.2.1) (Nat.le_of_eq g101.symm))
        have sz_b101 : h0.size ≤ b101 := (Nat.le_trans KK80.1 (Nat.le_of_eq g101.symm))
        have KK101 : Keep h0 h101 [] := KK80.ext E101
        have OL101 := OL80.ext E101
        have F_name_b101 : Fld Z h101 b101 "com/example/rowforge/rowforge/Column" "name" "Ljava/lang/String;" .null := D101 (Or.inr (wd27 hw)) (ty := (.object "java/lang/String")) (by decide)
        have F_position_b101 : Fld Z h101 b101 "com/example/rowforge/rowforge/Column" "position" "I" (.int (0 : Int32)) := D101 (Or.inr (wd29 hw)) (ty := .int) (by decide)
        have F_type_b101 : Fld Z h101 b101 "com/example/rowforge/rowforge/Column" "type" "Lcom/example/rowforge/rowforge/SqlType;" .null := D101 (Or.inr (wd31 hw)) (ty := (.object "com/example/rowforge/rowforge/SqlType")) (by decide)
        have F_length_b101 : Fld Z h101 b101 "com/example/rowforge/rowforge/Column" "length" "I" (.int (0 : Int32)) := D101 (Or.inr (wd33 hw)) (ty := .int) (by decide)
        have F_scale_b101 : Fld Z h101 b101 "com/example/rowforge/rowforge/Column" "scale" "I" (.int (0 : Int32)) := D101 (Or.inr (wd35 hw)) (ty := .int) (by decide)
        have F_nullable_b101 : Fld Z h101 b101 "com/example/rowforge/rowforge/Column" "nullable" "Z" (.int (0 : Int32)) := D101 (Or.inr (wd37 hw)) (ty := .boolean) (by decide)
        obtain ⟨b102, T102, h102, k102, X102, e102, E102, hS102, hk102, hZ102, hown102, st102⟩ := ldcS (s := s) (vm0 := s.vm) X101 hx hZ hown (wd7 hw) (own_wS hw) e101 ((State.WarmedH.refl s).since 0) (Nat.le_trans (Nat.le_trans (Nat.zero_le _) K80.1) E101.1) (g := (mkF m 91 #[.val (.int p1), .val (.long p2), .second, .val (.int p3), .val (.int p4), .val (.int (1 : Int32)), .val (.ref b80_0), .val (.ref w_BIGINT), .val (.int (1 : Int32)), .unset, .unset, .unset, .unset] [(.ref b101), (.ref b101)])) rfl (hb hby at_91) (n := 32) (by decide) (by decide) (by decide) (by decide)
        have KK102 : Keep h0 h102 [] := KK101.ext E102
        have OL102 := OL101.ext E102
        have fc104 := (A101.ext E102)
        have fc105 := (F_name_b101.ext E102)
        have fc106 := (F_position_b101.ext E102)
        have fc107 := (F_type_b101.ext E102)
        have fc108 := (F_length_b101.ext E102)
        have fc109 := (F_scale_b101.ext E102)
        have fc110 := (F_nullable_b101.ext E102)
        obtain ⟨_, _, ⟨T103, L103, k103, n103⟩, -, X103, ⟨Lc103, hQ103, l103, y103, z103⟩, st103⟩ := X102.specialBack hx (y := (⟨"com/example/rowforge/rowforge/Column", "<init>", "(Ljava/lang/String;ILcom/example/rowforge/rowforge/SqlType;IIZ)V"⟩ : MethodName)) rfl hown102 (mvT hZ102 (wd15 hw)) (mvT hZ102 (wd16 hw)) (mvT hZ102 (wd17 hw)) (by decide) (backOf (W := 1) (rm1_1 l Z a0 hw [] b101 b102 w_BIGINT h102 n0 OL102 fc104 fc105 g_b101 fc106 fc107 fc108 fc109 fc110) hZ102 (wd17 hw) (wd6 hw) (by decide) (by decide)) (g := (mkF m 101 #[.val (.int p1), .val (.long p2), .second, .val (.int p3), .val (.int p4), .val (.int (1 : Int32)), .val (.ref b80_0), .val (.ref w_BIGINT), .val (.int (1 : Int32)), .unset, .unset, .unset, .unset] [(.int (1 : Int32)), (.int (0 : Int32)), (.int (2147483647 : Int32)), (.ref w_BIGINT), (.int (-1 : Int32)), (.ref b102), (.ref b101), (.ref b101)])) rfl (by rw [hml]; rfl) (Steps.refl _) (a := b101) (argsL := [(.ref b102), (.int (-1 : Int32)), (.ref w_BIGINT), (.int (2147483647 : Int32)), (.int (0 : Int32)), (.int (1 : Int32))]) (rest := [(.ref b101)]) (lenOf pd_1 rfl) rfl (by show 2 * 0 + _ ≤ _; exact Nat.le_of_eq rfl) (hb hby at_101) (fun _ _ => ⟨rfl, e102, (by decide : 4 + 0 ≤ _), (by decide : 43 + 0 ≤ _)⟩)
        dsimp only [Pt.U, Pt.locs, Pt.cells, Pt.slots] at X103 l103 y103 z103 st103 hQ103
        subst l103 y103 z103
        obtain ⟨rfl, Nq103, K103, u103_0, u103_1, u103_2, u103_3, u103_4, u103_5⟩ := hQ103
        have KK103 : Keep h0 T103.heap [] := KK102.trans K103 (allS (Or.inr sz_b101) all0)
        have OL103 := OL102.keep K103 (allS g_b101 all0)
        have N103 := Fr.app N80 Nq103
        obtain ⟨T111, h111, X111, e111, E111, A111, D111, -, st111⟩ := newO X103 hx hZ102 hown102 (wd38 hw) (wd39 hw) (wd40 hw) rfl (g := (mkF m 106 #[.val (.int p1), .val (.long p2), .second, .val (.int p3), .val (.int p4), .val (.int (1 : Int32)), .val (.ref b80_0), .val (.ref w_BIGINT), .val (.int (1 : Int32)), .val (.ref b101), .unset, .unset, .unset] [])) rfl (hb hby at_106) (by decide) (by decide)
        obtain ⟨b111, g111⟩ : ∃ z, z = T103.heap.size := ⟨_, rfl⟩
        rw [← g111] at A111 D111 st111
        have g_b111 : n0 ≤ b111 := (Nat.le_trans (Nat.le_trans (Nat.le_of_eq OL103.1.symm) OL103.2.1) (Nat.le_of_eq g111.symm))
        have sz_b111 : h0.size ≤ b111 := (Nat.le_trans KK103.1 (Nat.le_of_eq g111.symm))
        have KK111 : Keep h0 h111 [] := KK103.ext E111
        have OL111 := OL103.ext E111
        have F_value_b111 : Fld Z h111 b111 "com/example/rowforge/rowforge/Field$Constant" "value" "Ljava/lang/Object;" .null := D111 (Or.inr (wd46 hw)) (ty := (.object "java/lang/Object")) (by decide)
        have F_column_b111 : Fld Z h111 b111 "com/example/rowforge/rowforge/Field$Constant" "column" "Lcom/example/rowforge/rowforge/Column;" .null := D111 (Or.inr (wd48 hw)) (ty := (.object "com/example/rowforge/rowforge/Column")) (by decide)
        obtain ⟨_, _, ⟨T112, L112, k112, n112⟩, -, X112, ⟨Lc112, hQ112, l112, y112, z112⟩, st112⟩ := X111.specialBack hx (y := (⟨"com/example/rowforge/rowforge/Field$Constant", "<init>", "(Ljava/lang/Object;Lcom/example/rowforge/rowforge/Column;)V"⟩ : MethodName)) rfl hown102 (mvT hZ102 (wd41 hw)) (mvT hZ102 (wd42 hw)) (mvT hZ102 (wd43 hw)) (by decide) (backOf (W := 1) (rm4_1 l Z a0 hw [] b111 b80_0 b101 h111 n0 OL111 A111 F_value_b111 g_b111 F_column_b111) hZ102 (wd43 hw) (wd40 hw) (by decide) (by decide)) (g := (mkF m 114 #[.val (.int p1), .val (.long p2), .second, .val (.int p3), .val (.int p4), .val (.int (1 : Int32)), .val (.ref b80_0), .val (.ref w_BIGINT), .val (.int (1 : Int32)), .val (.ref b101), .unset, .unset, .unset] [(.ref b101), (.ref b80_0), (.ref b111), (.ref b111)])) rfl (by rw [hml]; rfl) (Steps.refl _) (a := b111) (argsL := [(.ref b80_0), (.ref b101)]) (rest := [(.ref b111)]) (lenOf pd_2 rfl) rfl (by show 2 * 0 + _ ≤ _; exact Nat.le_of_eq rfl) (hb hby at_114) (fun _ _ => ⟨rfl, e111, (by decide : 5 + 0 ≤ _), (by decide : 45 + 0 ≤ _)⟩)
        dsimp only [Pt.U, Pt.locs, Pt.cells, Pt.slots] at X112 l112 y112 z112 st112 hQ112
        subst l112 y112 z112
        obtain ⟨rfl, Nq112, K112, u112_0, u112_1⟩ := hQ112
        have KK112 : Keep h0 T112.heap [] := KK111.trans K112 (allS (Or.inr sz_b111) all0)
        have OL112 := OL111.keep K112 (allS g_b111 all0)
        have N112 := Fr.app N103 Nq112
        obtain ⟨T113, h113, X113, e113, E113, A113, D113, -, st113⟩ := newO X112 hx hZ102 hown102 (wd49 hw) (wd50 hw) (wd51 hw) rfl (g := (mkF m 119 #[.val (.int p1), .val (.long p2), .second, .val (.int p3), .val (.int p4), .val (.int (1 : Int32)), .val (.ref b80_0), .val (.ref w_BIGINT), .val (.int (1 : Int32)), .val (.ref b101), .val (.ref b111), .unset, .unset] [])) rfl (hb hby at_119) (by decide) (by decide)
        obtain ⟨b113, g113⟩ : ∃ z, z = T112.heap.size := ⟨_, rfl⟩
        rw [← g113] at A113 D113 st113
        have g_b113 : n0 ≤ b113 := (Nat.le_trans (Nat.le_trans (Nat.le_of_eq OL112.1.symm) OL112.2.1) (Nat.le_of_eq g113.symm))
        have sz_b113 : h0.size ≤ b113 := (Nat.le_trans KK112.1 (Nat.le_of_eq g113.symm))
        have KK113 : Keep h0 h113 [] := KK112.ext E113
        have OL113 := OL112.ext E113
        have F_modCount_b113 : Fld Z h113 b113 "java/util/AbstractList" "modCount" "I" (.int (0 : Int32)) := D113 (Or.inl (wd69 hw)) (ty := .int) (by decide)
        have F_elementData_b113 : Fld Z h113 b113 "java/util/ArrayList" "elementData" "[Ljava/lang/Object;" .null := D113 (Or.inl (wd72 hw)) (ty := (.array (.object "java/lang/Object"))) (by decide)
        obtain ⟨_, _, ⟨T114, L114, k114, n114⟩, -, X114, ⟨Lc114, hQ114, l114, y114, z114⟩, st114⟩ := X113.specialBack hx (y := (⟨"java/util/ArrayList", "<init>", "()V"⟩ : MethodName)) rfl hown102 (mvT hZ102 (wd52 hw)) (mvT hZ102 (wd53 hw)) (mvT hZ102 (wd54 hw)) (by decide) (backOf (W := 1) (rm5_0 l Z a0 hw [] b113 w_DEFAULTCAPACITY_EMPTY_ELEMENTDATA h113 n0 OL113 A113 F_modCount_b113 g_b113 F_elementData_b113 pr5) hZ102 (wd54 hw) (wd51 hw) (by decide) (by decide)) (g := (mkF m 123 #[.val (.int p1), .val (.long p2), .second, .val (.int p3), .val (.int p4), .val (.int (1 : Int32)), .val (.ref b80_0), .val (.ref w_BIGINT), .val (.int (1 : Int32)), .val (.ref b101), .val (.ref b111), .unset, .unset] [(.ref b113), (.ref b113)])) rfl (by rw [hml]; rfl) (Steps.refl _) (a := b113) (argsL := []) (rest := [(.ref b113)]) (lenOf pd_0 rfl) rfl (by show 2 * 0 + _ ≤ _; exact Nat.le_of_eq rfl) (hb hby at_123) (fun _ _ => ⟨rfl, e113, (by decide : 6 + 0 ≤ _), (by decide : 48 + 0 ≤ _)⟩)
        dsimp only [Pt.U, Pt.locs, Pt.cells, Pt.slots] at X114 l114 y114 z114 st114 hQ114
        subst l114 y114 z114
        obtain ⟨rfl, Nq114, K114, u114_0, u114_1⟩ := hQ114
        have KK114 : Keep h0 T114.heap [] := KK113.trans K114 (allS (Or.inr sz_b113) all0)
        have OL114 := OL113.keep K114 (allS g_b113 all0)
        have N114 := Fr.app N112 Nq114
        have fc116 := ((u112_0.ext E113).keep K114 (ninS (Nat.ne_of_lt (Nat.lt_of_lt_of_le u112_1.lt (Nat.le_of_eq g113.symm))) nin0))
        have fc117 := (((A111.keep K112).ext E113).keep K114)
        obtain ⟨cq115, kq115, q115a, q115b, q115c⟩ := isOf hZ102 rfl fc117
        obtain ⟨_, _, ⟨T115, L115, k115, n115⟩, -, X115, ⟨Lc115, hQ115, l115, y115, z115⟩, st115⟩ := X114.virtualBack hx (y := (⟨"com/example/rowforge/rowforge/Field$Constant", "nullable", "()Z"⟩ : MethodName)) (z := (⟨"com/example/rowforge/rowforge/Field$Constant", "nullable", "()Z"⟩ : MethodName)) hown102 (mvT hZ102 (wd73 hw)) (mvT hZ102 (wd74 hw)) (notFace_of_selects (args := #[]) (mvT hZ102 (wd76 hw))) (mvT hZ102 (wd76 hw)) (mvT hZ102 (wd75 hw)) (by decide) (backOf (W := 0) (rm8_1 l Z a0 hw [] b111 b80_0 T114.heap n0 OL114 fc116) hZ102 (wd77 hw) (wd40 hw) (by decide) (by decide)) q115a q115c (g := (mkF m 130 #[.val (.int p1), .val (.long p2), .second, .val (.int p3), .val (.int p4), .val (.int (1 : Int32)), .val (.ref b80_0), .val (.ref w_BIGINT), .val (.int (1 : Int32)), .val (.ref b101), .val (.ref b111), .val (.ref b113), .unset] [(.ref b111)])) rfl (by rw [hml]; rfl) (Steps.refl _) (argsL := []) (rest := []) (lenOf pd_3 rfl) rfl (by show 2 * 0 + _ ≤ _; exact Nat.le_of_eq rfl) (hb hby at_130) (fun _ _ => ⟨rfl, rfl, (by decide : 6 + 0 ≤ _), (by decide : 48 + 0 ≤ _)⟩)
        dsimp only [Pt.U, Pt.locs, Pt.cells, Pt.slots] at X115 l115 y115 z115 st115 hQ115
        subst l115 y115 z115
        obtain ⟨rfl, Nq115, ec115⟩ := hQ115
        have N115 := Fr.app N114 Nq115
        obtain ⟨cq118, kq118, q118a, q118b, q118c⟩ := isOf hZ102 ec115 fc117
        obtain ⟨_, _, ⟨T118, L118, k118, n118⟩, -, X118, ⟨Lc118, hQ118, l118, y118, z118⟩, st118⟩ := X115.virtualBack hx (y := (⟨"com/example/rowforge/rowforge/Field$Constant", "value", "(Ljava/util/List;)Ljava/lang/Object;"⟩ : MethodName)) (z := (⟨"com/example/rowforge/rowforge/Field$Constant", "value", "(Ljava/util/List;)Ljava/lang/Object;"⟩ : MethodName)) hown102 (mvT hZ102 (wd78 hw)) (mvT hZ102 (wd79 hw)) (notFace_of_selects (args := #[]) (mvT hZ102 (wd81 hw))) (mvT hZ102 (wd81 hw)) (mvT hZ102 (wd80 hw)) (by decide) (backOf (W := 1) (rm9_1 l Z a0 hw [] b111 b113 b80_0 T114.heap n0 OL114 fc116) hZ102 (wd82 hw) (wd40 hw) (by decide) (by decide)) q118a q118c (g := (mkF m 156 #[.val (.int p1), .val (.long p2), .second, .val (.int p3), .val (.int p4), .val (.int (1 : Int32)), .val (.ref b80_0), .val (.ref w_BIGINT), .val (.int (1 : Int32)), .val (.ref b101), .val (.ref b111), .val (.ref b113), .val (.int (0 : Int32))] [(.ref b113), (.ref b111), (.int (0 : Int32))])) rfl (by rw [hml]; rfl) (Steps.refl _) (argsL := [(.ref b113)]) (rest := [(.int (0 : Int32))]) (lenOf pd_4 rfl) rfl (by show 2 * 0 + _ ≤ _; exact Nat.le_of_eq rfl) (hb hby at_156) (fun _ _ => ⟨rfl, ec115, (by decide : 6 + 0 ≤ _), (by decide : 48 + 0 ≤ _)⟩)
        dsimp only [Pt.U, Pt.locs, Pt.cells, Pt.slots] at X118 l118 y118 z118 st118 hQ118
        subst l118 y118 z118
        obtain ⟨rfl, Nq118, ec118⟩ := hQ118
        have N118 := Fr.app N115 Nq118
        obtain ⟨fs, hr, hrun, hended, hRW⟩ := X118.leaveW (s := s) hS102 (by rw [ec118]; exact (Nat.le_trans (Nat.le_trans (Nat.le_trans (Nat.le_trans (Nat.le_trans hk102 K103.1) E111.1) K112.1) E113.1) K114.1)) (v := some (.int (1 : Int32))) (fun h => by rw [Bd.returns] at h; cases h)
        refine ⟨_, _, pre82 _ ?_, hrun, hended, _, _, rfl, ⟨rfl, N118⟩, hRW.1, hRW.2.1, hRW.2.2.1, hRW.2.2.2.mono (by decide) (by decide)⟩
        show Steps p.tables e below (T81.setTop (mkF m 77 #[.val (.int p1), .val (.long p2), .second, .val (.int p3), .val (.int p4), .val (.int (1 : Int32)), .val (.ref b80_0), .val (.ref w_BIGINT), .unset, .unset, .unset, .unset, .unset] [(.int y3)])) _
        refine XS.ifNo X81.here hx rfl (hb hby at_77) rfl ((if0 _ _).trans (feq hf82).1) ?_
        show Steps p.tables e below (T81.setTop (mkF m 80 #[.val (.int p1), .val (.long p2), .second, .val (.int p3), .val (.int p4), .val (.int (1 : Int32)), .val (.ref b80_0), .val (.ref w_BIGINT), .unset, .unset, .unset, .unset, .unset] [])) _
        refine XS.iconst X81.here hx rfl (hb hby at_80) ?_
        refine XS.goto X81.here hx rfl (pc0 := 81) (pc' := 85) rfl (hb hby at_81) (by decide) (by decide) ?_
        refine XS.istore X81.here hx rfl (hb hby at_85) rfl (l' := #[.val (.int p1), .val (.long p2), .second, .val (.int p3), .val (.int p4), .val (.int (1 : Int32)), .val (.ref b80_0), .val (.ref w_BIGINT), .val (.int (1 : Int32)), .unset, .unset, .unset, .unset]) rfl ?_
        show Steps p.tables e below (T81.setTop (mkF m 87 #[.val (.int p1), .val (.long p2), .second, .val (.int p3), .val (.int p4), .val (.int (1 : Int32)), .val (.ref b80_0), .val (.ref w_BIGINT), .val (.int (1 : Int32)), .unset, .unset, .unset, .unset] [])) _
        refine st101 _ ?_
        show Steps p.tables e below (T101.setTop (mkF m 90 #[.val (.int p1), .val (.long p2), .second, .val (.int p3), .val (.int p4), .val (.int (1 : Int32)), .val (.ref b80_0), .val (.ref w_BIGINT), .val (.int (1 : Int32)), .unset, .unset, .unset, .unset] [(.ref b101)])) _
        refine XS.dup X101.here hx rfl (hb hby at_90) rfl rfl ?_
        refine st102 _ ?_
        refine XS.iconst X102.here hx rfl (hb hby at_93) ?_
        refine XS.aload X102.here hx rfl (hb hby at_94) rfl rfl ?_
        show Steps p.tables e below (T102.setTop (mkF m 96 #[.val (.int p1), .val (.long p2), .second, .val (.int p3), .val (.int p4), .val (.int (1 : Int32)), .val (.ref b80_0), .val (.ref w_BIGINT), .val (.int (1 : Int32)), .unset, .unset, .unset, .unset] [(.ref w_BIGINT), (.int (-1 : Int32)), (.ref b102), (.ref b101), (.ref b101)])) _
        refine X102.ldcInt hx hown102 (mvT hZ102 (wd0 hw)) (g := (mkF m 96 #[.val (.int p1), .val (.long p2), .second, .val (.int p3), .val (.int p4), .val (.int (1 : Int32)), .val (.ref b80_0), .val (.ref w_BIGINT), .val (.int (1 : Int32)), .unset, .unset, .unset, .unset] [(.ref w_BIGINT), (.int (-1 : Int32)), (.ref b102), (.ref b101), (.ref b101)])) rfl (hb hby at_96) _ ?_
        refine XS.iconst X102.here hx rfl (hb hby at_98) ?_
        refine XS.iload X102.here hx rfl (hb hby at_99) rfl ?_
        show Steps p.tables e below (T102.setTop (mkF m 101 #[.val (.int p1), .val (.long p2), .second, .val (.int p3), .val (.int p4), .val (.int (1 : Int32)), .val (.ref b80_0), .val (.ref w_BIGINT), .val (.int (1 : Int32)), .unset, .unset, .unset, .unset] [(.int (1 : Int32)), (.int (0 : Int32)), (.int (2147483647 : Int32)), (.ref w_BIGINT), (.int (-1 : Int32)), (.ref b102), (.ref b101), (.ref b101)])) _
        refine st103.trans ?_
        show Steps p.tables e below (T103.setTop (mkF m 104 #[.val (.int p1), .val (.long p2), .second, .val (.int p3), .val (.int p4), .val (.int (1 : Int32)), .val (.ref b80_0), .val (.ref w_BIGINT), .val (.int (1 : Int32)), .unset, .unset, .unset, .unset] [(.ref b101)])) _
        refine XS.astore X103.here hx rfl (hb hby at_104) rfl rfl (l' := #[.val (.int p1), .val (.long p2), .second, .val (.int p3), .val (.int p4), .val (.int (1 : Int32)), .val (.ref b80_0), .val (.ref w_BIGINT), .val (.int (1 : Int32)), .val (.ref b101), .unset, .unset, .unset]) rfl ?_
        show Steps p.tables e below (T103.setTop (mkF m 106 #[.val (.int p1), .val (.long p2), .second, .val (.int p3), .val (.int p4), .val (.int (1 : Int32)), .val (.ref b80_0), .val (.ref w_BIGINT), .val (.int (1 : Int32)), .val (.ref b101), .unset, .unset, .unset] [])) _
        refine st111 _ ?_
        show Steps p.tables e below (T111.setTop (mkF m 109 #[.val (.int p1), .val (.long p2), .second, .val (.int p3), .val (.int p4), .val (.int (1 : Int32)), .val (.ref b80_0), .val (.ref w_BIGINT), .val (.int (1 : Int32)), .val (.ref b101), .unset, .unset, .unset] [(.ref b111)])) _
        refine XS.dup X111.here hx rfl (hb hby at_109) rfl rfl ?_
        refine XS.aload X111.here hx rfl (hb hby at_110) rfl rfl ?_
        refine XS.aload X111.here hx rfl (hb hby at_112) rfl rfl ?_
        show Steps p.tables e below (T111.setTop (mkF m 114 #[.val (.int p1), .val (.long p2), .second, .val (.int p3), .val (.int p4), .val (.int (1 : Int32)), .val (.ref b80_0), .val (.ref w_BIGINT), .val (.int (1 : Int32)), .val (.ref b101), .unset, .unset, .unset] [(.ref b101), (.ref b80_0), (.ref b111), (.ref b111)])) _
        refine st112.trans ?_
        show Steps p.tables e below (T112.setTop (mkF m 117 #[.val (.int p1), .val (.long p2), .second, .val (.int p3), .val (.int p4), .val (.int (1 : Int32)), .val (.ref b80_0), .val (.ref w_BIGINT), .val (.int (1 : Int32)), .val (.ref b101), .unset, .unset, .unset] [(.ref b111)])) _
        refine XS.astore X112.here hx rfl (hb hby at_117) rfl rfl (l' := #[.val (.int p1), .val (.long p2), .second, .val (.int p3), .val (.int p4), .val (.int (1 : Int32)), .val (.ref b80_0), .val (.ref w_BIGINT), .val (.int (1 : Int32)), .val (.ref b101), .val (.ref b111), .unset, .unset]) rfl ?_
        show Steps p.tables e below (T112.setTop (mkF m 119 #[.val (.int p1), .val (.long p2), .second, .val (.int p3), .val (.int p4), .val (.int (1 : Int32)), .val (.ref b80_0), .val (.ref w_BIGINT), .val (.int (1 : Int32)), .val (.ref b101), .val (.ref b111), .unset, .unset] [])) _
        refine st113 _ ?_
        show Steps p.tables e below (T113.setTop (mkF m 122 #[.val (.int p1), .val (.long p2), .second, .val (.int p3), .val (.int p4), .val (.int (1 : Int32)), .val (.ref b80_0), .val (.ref w_BIGINT), .val (.int (1 : Int32)), .val (.ref b101), .val (.ref b111), .unset, .unset] [(.ref b113)])) _
        refine XS.dup X113.here hx rfl (hb hby at_122) rfl rfl ?_
        show Steps p.tables e below (T113.setTop (mkF m 123 #[.val (.int p1), .val (.long p2), .second, .val (.int p3), .val (.int p4), .val (.int (1 : Int32)), .val (.ref b80_0), .val (.ref w_BIGINT), .val (.int (1 : Int32)), .val (.ref b101), .val (.ref b111), .unset, .unset] [(.ref b113), (.ref b113)])) _
        refine st114.trans ?_
        show Steps p.tables e below (T114.setTop (mkF m 126 #[.val (.int p1), .val (.long p2), .second, .val (.int p3), .val (.int p4), .val (.int (1 : Int32)), .val (.ref b80_0), .val (.ref w_BIGINT), .val (.int (1 : Int32)), .val (.ref b101), .val (.ref b111), .unset, .unset] [(.ref b113)])) _
        refine XS.astore X114.here hx rfl (hb hby at_126) rfl rfl (l' := #[.val (.int p1), .val (.long p2), .second, .val (.int p3), .val (.int p4), .val (.int (1 : Int32)), .val (.ref b80_0), .val (.ref w_BIGINT), .val (.int (1 : Int32)), .val (.ref b101), .val (.ref b111), .val (.ref b113), .unset]) rfl ?_
        refine XS.aload X114.here hx rfl (hb hby at_128) rfl rfl ?_
        show Steps p.tables e below (T114.setTop (mkF m 130 #[.val (.int p1), .val (.long p2), .second, .val (.int p3), .val (.int p4), .val (.int (1 : Int32)), .val (.ref b80_0), .val (.ref w_BIGINT), .val (.int (1 : Int32)), .val (.ref b101), .val (.ref b111), .val (.ref b113), .unset] [(.ref b111)])) _
        refine st115.trans ?_
        show Steps p.tables e below (T115.setTop (mkF m 133 #[.val (.int p1), .val (.long p2), .second, .val (.int p3), .val (.int p4), .val (.int (1 : Int32)), .val (.ref b80_0), .val (.ref w_BIGINT), .val (.int (1 : Int32)), .val (.ref b101), .val (.ref b111), .val (.ref b113), .unset] [(.int (0 : Int32))])) _
        refine XS.istore X115.here hx rfl (hb hby at_133) rfl (l' := #[.val (.int p1), .val (.long p2), .second, .val (.int p3), .val (.int p4), .val (.int (1 : Int32)), .val (.ref b80_0), .val (.ref w_BIGINT), .val (.int (1 : Int32)), .val (.ref b101), .val (.ref b111), .val (.ref b113), .val (.int (0 : Int32))]) rfl ?_
        refine XS.iload X115.here hx rfl (hb hby at_135) rfl ?_
        refine XS.iload X115.here hx rfl (hb hby at_137) rfl ?_
        show Steps p.tables e below (T115.setTop (mkF m 139 #[.val (.int p1), .val (.long p2), .second, .val (.int p3), .val (.int p4), .val (.int (1 : Int32)), .val (.ref b80_0), .val (.ref w_BIGINT), .val (.int (1 : Int32)), .val (.ref b101), .val (.ref b111), .val (.ref b113), .val (.int (0 : Int32))] [(.int (1 : Int32)), (.int (0 : Int32))])) _
        refine XS.ifYes X115.here hx rfl (pc0 := 139) (pc' := 146) rfl (hb hby at_139) rfl ((if0 _ _).trans (feq (by decide : ¬ ((1 : Int32) = (0 : Int32)))).2) (by decide) (by decide) ?_
        show Steps p.tables e below (T115.setTop (mkF m 146 #[.val (.int p1), .val (.long p2), .second, .val (.int p3), .val (.int p4), .val (.int (1 : Int32)), .val (.ref b80_0), .val (.ref w_BIGINT), .val (.int (1 : Int32)), .val (.ref b101), .val (.ref b111), .val (.ref b113), .val (.int (0 : Int32))] [(.int (0 : Int32))])) _
        refine XS.iconst X115.here hx rfl (hb hby at_146) ?_
        show Steps p.tables e below (T115.setTop (mkF m 147 #[.val (.int p1), .val (.long p2), .second, .val (.int p3), .val (.int p4), .val (.int (1 : Int32)), .val (.ref b80_0), .val (.ref w_BIGINT), .val (.int (1 : Int32)), .val (.ref b101), .val (.ref b111), .val (.ref b113), .val (.int (0 : Int32))] [(.int (0 : Int32)), (.int (0 : Int32))])) _
        refine XS.icmpNo X115.here hx rfl (hb hby at_147) rfl (teq (rfl : (0 : Int32) = (0 : Int32))).2 ?_
        show Steps p.tables e below (T115.setTop (mkF m 150 #[.val (.int p1), .val (.long p2), .second, .val (.int p3), .val (.int p4), .val (.int (1 : Int32)), .val (.ref b80_0), .val (.ref w_BIGINT), .val (.int (1 : Int32)), .val (.ref b101), .val (.ref b111), .val (.ref b113), .val (.int (0 : Int32))] [])) _
        refine XS.iload X115.here hx rfl (hb hby at_150) rfl ?_
        refine XS.aload X115.here hx rfl (hb hby at_152) rfl rfl ?_
        refine XS.aload X115.here hx rfl (hb hby at_154) rfl rfl ?_
        show Steps p.tables e below (T115.setTop (mkF m 156 #[.val (.int p1), .val (.long p2), .second, .val (.int p3), .val (.int p4), .val (.int (1 : Int32)), .val (.ref b80_0), .val (.ref w_BIGINT), .val (.int (1 : Int32)), .val (.ref b101), .val (.ref b111), .val (.ref b113), .val (.int (0 : Int32))] [(.ref b113), (.ref b111), (.int (0 : Int32))])) _
        refine st118.trans ?_
        show Steps p.tables e below (T118.setTop (mkF m 159 #[.val (.int p1), .val (.long p2), .second, .val (.int p3), .val (.int p4), .val (.int (1 : Int32)), .val (.ref b80_0), .val (.ref w_BIGINT), .val (.int (1 : Int32)), .val (.ref b101), .val (.ref b111), .val (.ref b113), .val (.int (0 : Int32))] [(.ref b80_0), (.int (0 : Int32))])) _
        refine XS.ifnonnullYes X118.here hx rfl (pc0 := 159) (pc' := 166) rfl (hb hby at_159) rfl (by decide) (by decide) ?_
        show Steps p.tables e below (T118.setTop (mkF m 166 #[.val (.int p1), .val (.long p2), .second, .val (.int p3), .val (.int p4), .val (.int (1 : Int32)), .val (.ref b80_0), .val (.ref w_BIGINT), .val (.int (1 : Int32)), .val (.ref b101), .val (.ref b111), .val (.ref b113), .val (.int (0 : Int32))] [(.int (0 : Int32))])) _
        refine XS.iconst X118.here hx rfl (hb hby at_166) ?_
        show Steps p.tables e below (T118.setTop (mkF m 167 #[.val (.int p1), .val (.long p2), .second, .val (.int p3), .val (.int p4), .val (.int (1 : Int32)), .val (.ref b80_0), .val (.ref w_BIGINT), .val (.int (1 : Int32)), .val (.ref b101), .val (.ref b111), .val (.ref b113), .val (.int (0 : Int32))] [(.int (0 : Int32)), (.int (0 : Int32))])) _
        refine XS.icmpNo X118.here hx rfl (hb hby at_167) rfl (teq (rfl : (0 : Int32) = (0 : Int32))).2 ?_
        show Steps p.tables e below (T118.setTop (mkF m 170 #[.val (.int p1), .val (.long p2), .second, .val (.int p3), .val (.int p4), .val (.int (1 : Int32)), .val (.ref b80_0), .val (.ref w_BIGINT), .val (.int (1 : Int32)), .val (.ref b101), .val (.ref b111), .val (.ref b113), .val (.int (0 : Int32))] [])) _
        refine XS.iconst X118.here hx rfl (hb hby at_170) ?_
        refine XS.goto X118.here hx rfl (pc0 := 171) (pc' := 175) rfl (hb hby at_171) (by decide) (by decide) ?_
        show Steps p.tables e below (T118.setTop (mkF m 175 #[.val (.int p1), .val (.long p2), .second, .val (.int p3), .val (.int p4), .val (.int (1 : Int32)), .val (.ref b80_0), .val (.ref w_BIGINT), .val (.int (1 : Int32)), .val (.ref b101), .val (.ref b111), .val (.ref b113), .val (.int (0 : Int32))] [(.int (1 : Int32))])) _
        exact retN X118 hx (t := .boolean) Bd.returns (by simp) (hb hby at_175) hr
    · by_cases hf119 : (127 : Int64) < p2
      · obtain ⟨_, _, ⟨T120, L120, k120, n120⟩, -, X120, ⟨Lc120, hQ120, l120, y120, z120⟩, st120⟩ := Jvm.LawKit.callS X0 hx (y := (⟨"java/lang/Long", "valueOf", "(J)Ljava/lang/Long;"⟩ : MethodName)) hown (mvT hZ (wd104 hw)) (mvT hZ (wd105 hw)) (mvT hZ (wd106 hw)) (mvT hZ (wd107 hw)) (by decide) (backOf (W := 0) (rm14_1 l Z a0 hw [] p2 h0 n0 OL0 hf79 hf119) hZ (wd107 hw) (wd106 hw) (by decide) (by decide)) (g := (mkF m 44 #[.val (.int p1), .val (.long p2), .second, .val (.int p3), .val (.int p4), .val (.int (1 : Int32)), .unset, .unset, .unset, .unset, .unset, .unset, .unset] [(.long p2)])) rfl (by rw [hml]; rfl) (argsL := [(.long p2)]) (rest := []) (lenOf pd_6 rfl) rfl (by show 2 * 0 + _ ≤ _; exact Nat.le_of_eq rfl) (hb hby at_44) (fun _ _ => ⟨rfl, e0, (by decide : 0 + 1 ≤ _), (by decide : 0 + 1 ≤ _)⟩)
        dsimp only [Pt.U, Pt.locs, Pt.cells, Pt.slots] at X120 l120 y120 z120 st120 hQ120
        subst l120 y120 z120
        obtain ⟨b120_0, rfl, Nq120, K120, u120_0, u120_1, u120_2⟩ := hQ120
        have KK120 : Keep h0 T120.heap [] := (Keep.refl h0 []).trans K120 all0
        have OL120 := OL0.keep K120 all0
        have g_b120_0 : n0 ≤ b120_0 := Nat.le_trans (Nat.le_trans (Nat.le_of_eq OL0.1.symm) OL0.2.1) u120_0
        have sz_b120_0 : h0.size ≤ b120_0 := Nat.le_trans (Keep.refl h0 []).1 u120_0
        have N120 := Fr.app N0 Nq120
        obtain ⟨T121, X121, e121, st121⟩ := getS2 X120 hx hZ hown (host := "") (Or.inl (wd124 hw)) Via.refl rfl (pr7.ext OL120.2) (g := (mkF m 49 #[.val (.int p1), .val (.long p2), .second, .val (.int p3), .val (.int p4), .val (.int (1 : Int32)), .val (.ref b120_0), .unset, .unset, .unset, .unset, .unset, .unset] [])) rfl (hb hby at_49)
        have pre122 : ∀ t, Steps p.tables e below (T121.setTop (mkF m 77 #[.val (.int p1), .val (.long p2), .second, .val (.int p3), .val (.int p4), .val (.int (1 : Int32)), .val (.ref b120_0), .val (.ref w_BIGINT), .unset, .unset, .unset, .unset, .unset] [(.int y3)])) t → Steps p.tables e below (s₁.setTop (entryFrame m #[(.int p1), (.long p2), (.int p3), (.int p4)] maxLocals)) t := by
          intro t kt
          refine pre79 _ ?_
          show Steps p.tables e below (s₁.setTop (mkF m 44 #[.val (.int p1), .val (.long p2), .second, .val (.int p3), .val (.int p4), .val (.int (1 : Int32)), .unset, .unset, .unset, .unset, .unset, .unset, .unset] [(.long p2)])) _
          refine st120 _ ?_
          show Steps p.tables e below (T120.setTop (mkF m 47 #[.val (.int p1), .val (.long p2), .second, .val (.int p3), .val (.int p4), .val (.int (1 : Int32)), .unset, .unset, .unset, .unset, .unset, .unset, .unset] [(.ref b120_0)])) _
          refine XS.astore X120.here hx rfl (hb hby at_47) rfl rfl (l' := #[.val (.int p1), .val (.long p2), .second, .val (.int p3), .val (.int p4), .val (.int (1 : Int32)), .val (.ref b120_0), .unset, .unset, .unset, .unset, .unset, .unset]) rfl ?_
          show Steps p.tables e below (T120.setTop (mkF m 49 #[.val (.int p1), .val (.long p2), .second, .val (.int p3), .val (.int p4), .val (.int (1 : Int32)), .val (.ref b120_0), .unset, .unset, .unset, .unset, .unset, .unset] [])) _
          refine st121 _ ?_
          show Steps p.tables e below (T121.setTop (mkF m 52 #[.val (.int p1), .val (.long p2), .second, .val (.int p3), .val (.int p4), .val (.int (1 : Int32)), .val (.ref b120_0), .unset, .unset, .unset, .unset, .unset, .unset] [(.ref w_BIGINT)])) _
          refine XS.astore X121.here hx rfl (hb hby at_52) rfl rfl (l' := #[.val (.int p1), .val (.long p2), .second, .val (.int p3), .val (.int p4), .val (.int (1 : Int32)), .val (.ref b120_0), .val (.ref w_BIGINT), .unset, .unset, .unset, .unset, .unset]) rfl ?_
          refine XS.goto X121.here hx rfl (pc0 := 54) (pc' := 73) rfl (hb hby at_54) (by decide) (by decide) ?_
          refine XS.iload X121.here hx rfl (hb hby at_73) rfl ?_
          refine XS.iconst X121.here hx rfl (hb hby at_75) ?_
          show Steps p.tables e below (T121.setTop (mkF m 76 #[.val (.int p1), .val (.long p2), .second, .val (.int p3), .val (.int p4), .val (.int (1 : Int32)), .val (.ref b120_0), .val (.ref w_BIGINT), .unset, .unset, .unset, .unset, .unset] [(.int (1 : Int32)), (.int p4)])) _
          refine XS.iand X121.here hx rfl (hb hby at_76) rfl ?_
          show Steps p.tables e below (T121.setTop (mkF m 77 #[.val (.int p1), .val (.long p2), .second, .val (.int p3), .val (.int p4), .val (.int (1 : Int32)), .val (.ref b120_0), .val (.ref w_BIGINT), .unset, .unset, .unset, .unset, .unset] [(.int (p4 &&& (1 : Int32)))])) _
          rw [pr4]
          exact kt
        by_cases hf122 : y3 = (0 : Int32)
        · obtain ⟨T123, h123, X123, e123, E123, A123, D123, -, st123⟩ := newO X121 hx hZ hown (wd4 hw) (wd5 hw) (wd6 hw) e121 (g := (mkF m 87 #[.val (.int p1), .val (.long p2), .second, .val (.int p3), .val (.int p4), .val (.int (1 : Int32)), .val (.ref b120_0), .val (.ref w_BIGINT), .val (.int (0 : Int32)), .unset, .unset, .unset, .unset] [])) rfl (hb hby at_87) (by decide) (by decide)
          obtain ⟨b123, g123⟩ : ∃ z, z = T120.heap.size := ⟨_, rfl⟩
          rw [← g123] at A123 D123 st123
          have g_b123 : n0 ≤ b123 := (Nat.le_trans (Nat.le_trans (Nat.le_of_eq OL120.1.symm) OL120.2.1) (Nat.le_of_eq g123.symm))
          have sz_b123 : h0.size ≤ b123 := (Nat.le_trans KK120.1 (Nat.le_of_eq g123.symm))
          have KK123 : Keep h0 h123 [] := KK120.ext E123
          have OL123 := OL120.ext E123
          have F_name_b123 : Fld Z h123 b123 "com/example/rowforge/rowforge/Column" "name" "Ljava/lang/String;" .null := D123 (Or.inr (wd27 hw)) (ty := (.object "java/lang/String")) (by decide)
          have F_position_b123 : Fld Z h123 b123 "com/example/rowforge/rowforge/Column" "position" "I" (.int (0 : Int32)) := D123 (Or.inr (wd29 hw)) (ty := .int) (by decide)
          have F_type_b123 : Fld Z h123 b123 "com/example/rowforge/rowforge/Column" "type" "Lcom/example/rowforge/rowforge/SqlType;" .null := D123 (Or.inr (wd31 hw)) (ty := (.object "com/example/rowforge/rowforge/SqlType")) (by decide)
          have F_length_b123 : Fld Z h123 b123 "com/example/rowforge/rowforge/Column" "length" "I" (.int (0 : Int32)) := D123 (Or.inr (wd33 hw)) (ty := .int) (by decide)
          have F_scale_b123 : Fld Z h123 b123 "com/example/rowforge/rowforge/Column" "scale" "I" (.int (0 : Int32)) := D123 (Or.inr (wd35 hw)) (ty := .int) (by decide)
          have F_nullable_b123 : Fld Z h123 b123 "com/example/rowforge/rowforge/Column" "nullable" "Z" (.int (0 : Int32)) := D123 (Or.inr (wd37 hw)) (ty := .boolean) (by decide)
          obtain ⟨b124, T124, h124, k124, X124, e124, E124, hS124, hk124, hZ124, hown124, st124⟩ := ldcS (s := s) (vm0 := s.vm) X123 hx hZ hown (wd7 hw) (own_wS hw) e123 ((State.WarmedH.refl s).since 0) (Nat.le_trans (Nat.le_trans (Nat.zero_le _) K120.1) E123.1) (g := (mkF m 91 #[.val (.int p1), .val (.long p2), .second, .val (.int p3), .val (.int p4), .val (.int (1 : Int32)), .val (.ref b120_0), .val (.ref w_BIGINT), .val (.int (0 : Int32)), .unset, .unset, .unset, .unset] [(.ref b123), (.ref b123)])) rfl (hb hby at_91) (n := 32) (by decide) (by decide) (by decide) (by decide)
          have KK124 : Keep h0 h124 [] := KK123.ext E124
          have OL124 := OL123.ext E124
          have fc126 := (A123.ext E124)
          have fc127 := (F_name_b123.ext E124)
          have fc128 := (F_position_b123.ext E124)
          have fc129 := (F_type_b123.ext E124)
          have fc130 := (F_length_b123.ext E124)
          have fc131 := (F_scale_b123.ext E124)
          have fc132 := (F_nullable_b123.ext E124)
          obtain ⟨_, _, ⟨T125, L125, k125, n125⟩, -, X125, ⟨Lc125, hQ125, l125, y125, z125⟩, st125⟩ := X124.specialBack hx (y := (⟨"com/example/rowforge/rowforge/Column", "<init>", "(Ljava/lang/String;ILcom/example/rowforge/rowforge/SqlType;IIZ)V"⟩ : MethodName)) rfl hown124 (mvT hZ124 (wd15 hw)) (mvT hZ124 (wd16 hw)) (mvT hZ124 (wd17 hw)) (by decide) (backOf (W := 1) (rm1_0 l Z a0 hw [] b123 b124 w_BIGINT h124 n0 OL124 fc126 fc127 g_b123 fc128 fc129 fc130 fc131 fc132) hZ124 (wd17 hw) (wd6 hw) (by decide) (by decide)) (g := (mkF m 101 #[.val (.int p1), .val (.long p2), .second, .val (.int p3), .val (.int p4), .val (.int (1 : Int32)), .val (.ref b120_0), .val (.ref w_BIGINT), .val (.int (0 : Int32)), .unset, .unset, .unset, .unset] [(.int (0 : Int32)), (.int (0 : Int32)), (.int (2147483647 : Int32)), (.ref w_BIGINT), (.int (-1 : Int32)), (.ref b124), (.ref b123), (.ref b123)])) rfl (by rw [hml]; rfl) (Steps.refl _) (a := b123) (argsL := [(.ref b124), (.int (-1 : Int32)), (.ref w_BIGINT), (.int (2147483647 : Int32)), (.int (0 : Int32)), (.int (0 : Int32))]) (rest := [(.ref b123)]) (lenOf pd_1 rfl) rfl (by show 2 * 0 + _ ≤ _; exact Nat.le_of_eq rfl) (hb hby at_101) (fun _ _ => ⟨rfl, e124, (by decide : 4 + 0 ≤ _), (by decide : 43 + 0 ≤ _)⟩)
          dsimp only [Pt.U, Pt.locs, Pt.cells, Pt.slots] at X125 l125 y125 z125 st125 hQ125
          subst l125 y125 z125
          obtain ⟨rfl, Nq125, K125, u125_0, u125_1, u125_2, u125_3, u125_4, u125_5⟩ := hQ125
          have KK125 : Keep h0 T125.heap [] := KK124.trans K125 (allS (Or.inr sz_b123) all0)
          have OL125 := OL124.keep K125 (allS g_b123 all0)
          have N125 := Fr.app N120 Nq125
          obtain ⟨T133, h133, X133, e133, E133, A133, D133, -, st133⟩ := newO X125 hx hZ124 hown124 (wd38 hw) (wd39 hw) (wd40 hw) rfl (g := (mkF m 106 #[.val (.int p1), .val (.long p2), .second, .val (.int p3), .val (.int p4), .val (.int (1 : Int32)), .val (.ref b120_0), .val (.ref w_BIGINT), .val (.int (0 : Int32)), .val (.ref b123), .unset, .unset, .unset] [])) rfl (hb hby at_106) (by decide) (by decide)
          obtain ⟨b133, g133⟩ : ∃ z, z = T125.heap.size := ⟨_, rfl⟩
          rw [← g133] at A133 D133 st133
          have g_b133 : n0 ≤ b133 := (Nat.le_trans (Nat.le_trans (Nat.le_of_eq OL125.1.symm) OL125.2.1) (Nat.le_of_eq g133.symm))
          have sz_b133 : h0.size ≤ b133 := (Nat.le_trans KK125.1 (Nat.le_of_eq g133.symm))
          have KK133 : Keep h0 h133 [] := KK125.ext E133
          have OL133 := OL125.ext E133
          have F_value_b133 : Fld Z h133 b133 "com/example/rowforge/rowforge/Field$Constant" "value" "Ljava/lang/Object;" .null := D133 (Or.inr (wd46 hw)) (ty := (.object "java/lang/Object")) (by decide)
          have F_column_b133 : Fld Z h133 b133 "com/example/rowforge/rowforge/Field$Constant" "column" "Lcom/example/rowforge/rowforge/Column;" .null := D133 (Or.inr (wd48 hw)) (ty := (.object "com/example/rowforge/rowforge/Column")) (by decide)
          obtain ⟨_, _, ⟨T134, L134, k134, n134⟩, -, X134, ⟨Lc134, hQ134, l134, y134, z134⟩, st134⟩ := X133.specialBack hx (y := (⟨"com/example/rowforge/rowforge/Field$Constant", "<init>", "(Ljava/lang/Object;Lcom/example/rowforge/rowforge/Column;)V"⟩ : MethodName)) rfl hown124 (mvT hZ124 (wd41 hw)) (mvT hZ124 (wd42 hw)) (mvT hZ124 (wd43 hw)) (by decide) (backOf (W := 1) (rm4_1 l Z a0 hw [] b133 b120_0 b123 h133 n0 OL133 A133 F_value_b133 g_b133 F_column_b133) hZ124 (wd43 hw) (wd40 hw) (by decide) (by decide)) (g := (mkF m 114 #[.val (.int p1), .val (.long p2), .second, .val (.int p3), .val (.int p4), .val (.int (1 : Int32)), .val (.ref b120_0), .val (.ref w_BIGINT), .val (.int (0 : Int32)), .val (.ref b123), .unset, .unset, .unset] [(.ref b123), (.ref b120_0), (.ref b133), (.ref b133)])) rfl (by rw [hml]; rfl) (Steps.refl _) (a := b133) (argsL := [(.ref b120_0), (.ref b123)]) (rest := [(.ref b133)]) (lenOf pd_2 rfl) rfl (by show 2 * 0 + _ ≤ _; exact Nat.le_of_eq rfl) (hb hby at_114) (fun _ _ => ⟨rfl, e133, (by decide : 5 + 0 ≤ _), (by decide : 45 + 0 ≤ _)⟩)
          dsimp only [Pt.U, Pt.locs, Pt.cells, Pt.slots] at X134 l134 y134 z134 st134 hQ134
          subst l134 y134 z134
          obtain ⟨rfl, Nq134, K134, u134_0, u134_1⟩ := hQ134
          have KK134 : Keep h0 T134.heap [] := KK133.trans K134 (allS (Or.inr sz_b133) all0)
          have OL134 := OL133.keep K134 (allS g_b133 all0)
          have N134 := Fr.app N125 Nq134
          obtain ⟨T135, h135, X135, e135, E135, A135, D135, -, st135⟩ := newO X134 hx hZ124 hown124 (wd49 hw) (wd50 hw) (wd51 hw) rfl (g := (mkF m 119 #[.val (.int p1), .val (.long p2), .second, .val (.int p3), .val (.int p4), .val (.int (1 : Int32)), .val (.ref b120_0), .val (.ref w_BIGINT), .val (.int (0 : Int32)), .val (.ref b123), .val (.ref b133), .unset, .unset] [])) rfl (hb hby at_119) (by decide) (by decide)
          obtain ⟨b135, g135⟩ : ∃ z, z = T134.heap.size := ⟨_, rfl⟩
          rw [← g135] at A135 D135 st135
          have g_b135 : n0 ≤ b135 := (Nat.le_trans (Nat.le_trans (Nat.le_of_eq OL134.1.symm) OL134.2.1) (Nat.le_of_eq g135.symm))
          have sz_b135 : h0.size ≤ b135 := (Nat.le_trans KK134.1 (Nat.le_of_eq g135.symm))
          have KK135 : Keep h0 h135 [] := KK134.ext E135
          have OL135 := OL134.ext E135
          have F_modCount_b135 : Fld Z h135 b135 "java/util/AbstractList" "modCount" "I" (.int (0 : Int32)) := D135 (Or.inl (wd69 hw)) (ty := .int) (by decide)
          have F_elementData_b135 : Fld Z h135 b135 "java/util/ArrayList" "elementData" "[Ljava/lang/Object;" .null := D135 (Or.inl (wd72 hw)) (ty := (.array (.object "java/lang/Object"))) (by decide)
          obtain ⟨_, _, ⟨T136, L136, k136, n136⟩, -, X136, ⟨Lc136, hQ136, l136, y136, z136⟩, st136⟩ := X135.specialBack hx (y := (⟨"java/util/ArrayList", "<init>", "()V"⟩ : MethodName)) rfl hown124 (mvT hZ124 (wd52 hw)) (mvT hZ124 (wd53 hw)) (mvT hZ124 (wd54 hw)) (by decide) (backOf (W := 1) (rm5_0 l Z a0 hw [] b135 w_DEFAULTCAPACITY_EMPTY_ELEMENTDATA h135 n0 OL135 A135 F_modCount_b135 g_b135 F_elementData_b135 pr5) hZ124 (wd54 hw) (wd51 hw) (by decide) (by decide)) (g := (mkF m 123 #[.val (.int p1), .val (.long p2), .second, .val (.int p3), .val (.int p4), .val (.int (1 : Int32)), .val (.ref b120_0), .val (.ref w_BIGINT), .val (.int (0 : Int32)), .val (.ref b123), .val (.ref b133), .unset, .unset] [(.ref b135), (.ref b135)])) rfl (by rw [hml]; rfl) (Steps.refl _) (a := b135) (argsL := []) (rest := [(.ref b135)]) (lenOf pd_0 rfl) rfl (by show 2 * 0 + _ ≤ _; exact Nat.le_of_eq rfl) (hb hby at_123) (fun _ _ => ⟨rfl, e135, (by decide : 6 + 0 ≤ _), (by decide : 48 + 0 ≤ _)⟩)
          dsimp only [Pt.U, Pt.locs, Pt.cells, Pt.slots] at X136 l136 y136 z136 st136 hQ136
          subst l136 y136 z136
          obtain ⟨rfl, Nq136, K136, u136_0, u136_1⟩ := hQ136
          have KK136 : Keep h0 T136.heap [] := KK135.trans K136 (allS (Or.inr sz_b135) all0)
          have OL136 := OL135.keep K136 (allS g_b135 all0)
          have N136 := Fr.app N134 Nq136
          have fc138 := ((u134_0.ext E135).keep K136 (ninS (Nat.ne_of_lt (Nat.lt_of_lt_of_le u134_1.lt (Nat.le_of_eq g135.symm))) nin0))
          have fc139 := (((A133.keep K134).ext E135).keep K136)
          obtain ⟨cq137, kq137, q137a, q137b, q137c⟩ := isOf hZ124 rfl fc139
          obtain ⟨_, _, ⟨T137, L137, k137, n137⟩, -, X137, ⟨Lc137, hQ137, l137, y137, z137⟩, st137⟩ := X136.virtualBack hx (y := (⟨"com/example/rowforge/rowforge/Field$Constant", "nullable", "()Z"⟩ : MethodName)) (z := (⟨"com/example/rowforge/rowforge/Field$Constant", "nullable", "()Z"⟩ : MethodName)) hown124 (mvT hZ124 (wd73 hw)) (mvT hZ124 (wd74 hw)) (notFace_of_selects (args := #[]) (mvT hZ124 (wd76 hw))) (mvT hZ124 (wd76 hw)) (mvT hZ124 (wd75 hw)) (by decide) (backOf (W := 0) (rm8_1 l Z a0 hw [] b133 b120_0 T136.heap n0 OL136 fc138) hZ124 (wd77 hw) (wd40 hw) (by decide) (by decide)) q137a q137c (g := (mkF m 130 #[.val (.int p1), .val (.long p2), .second, .val (.int p3), .val (.int p4), .val (.int (1 : Int32)), .val (.ref b120_0), .val (.ref w_BIGINT), .val (.int (0 : Int32)), .val (.ref b123), .val (.ref b133), .val (.ref b135), .unset] [(.ref b133)])) rfl (by rw [hml]; rfl) (Steps.refl _) (argsL := []) (rest := []) (lenOf pd_3 rfl) rfl (by show 2 * 0 + _ ≤ _; exact Nat.le_of_eq rfl) (hb hby at_130) (fun _ _ => ⟨rfl, rfl, (by decide : 6 + 0 ≤ _), (by decide : 48 + 0 ≤ _)⟩)
          dsimp only [Pt.U, Pt.locs, Pt.cells, Pt.slots] at X137 l137 y137 z137 st137 hQ137
          subst l137 y137 z137
          obtain ⟨rfl, Nq137, ec137⟩ := hQ137
          have N137 := Fr.app N136 Nq137
          obtain ⟨cq140, kq140, q140a, q140b, q140c⟩ := isOf hZ124 ec137 fc139
          obtain ⟨_, _, ⟨T140, L140, k140, n140⟩, -, X140, ⟨Lc140, hQ140, l140, y140, z140⟩, st140⟩ := X137.virtualBack hx (y := (⟨"com/example/rowforge/rowforge/Field$Constant", "value", "(Ljava/util/List;)Ljava/lang/Object;"⟩ : MethodName)) (z := (⟨"com/example/rowforge/rowforge/Field$Constant", "value", "(Ljava/util/List;)Ljava/lang/Object;"⟩ : MethodName)) hown124 (mvT hZ124 (wd78 hw)) (mvT hZ124 (wd79 hw)) (notFace_of_selects (args := #[]) (mvT hZ124 (wd81 hw))) (mvT hZ124 (wd81 hw)) (mvT hZ124 (wd80 hw)) (by decide) (backOf (W := 1) (rm9_1 l Z a0 hw [] b133 b135 b120_0 T136.heap n0 OL136 fc138) hZ124 (wd82 hw) (wd40 hw) (by decide) (by decide)) q140a q140c (g := (mkF m 156 #[.val (.int p1), .val (.long p2), .second, .val (.int p3), .val (.int p4), .val (.int (1 : Int32)), .val (.ref b120_0), .val (.ref w_BIGINT), .val (.int (0 : Int32)), .val (.ref b123), .val (.ref b133), .val (.ref b135), .val (.int (0 : Int32))] [(.ref b135), (.ref b133), (.int (0 : Int32))])) rfl (by rw [hml]; rfl) (Steps.refl _) (argsL := [(.ref b135)]) (rest := [(.int (0 : Int32))]) (lenOf pd_4 rfl) rfl (by show 2 * 0 + _ ≤ _; exact Nat.le_of_eq rfl) (hb hby at_156) (fun _ _ => ⟨rfl, ec137, (by decide : 6 + 0 ≤ _), (by decide : 48 + 0 ≤ _)⟩)
          dsimp only [Pt.U, Pt.locs, Pt.cells, Pt.slots] at X140 l140 y140 z140 st140 hQ140
          subst l140 y140 z140
          obtain ⟨rfl, Nq140, ec140⟩ := hQ140
          have N140 := Fr.app N137 Nq140
          obtain ⟨fs, hr, hrun, hended, hRW⟩ := X140.leaveW (s := s) hS124 (by rw [ec140]; exact (Nat.le_trans (Nat.le_trans (Nat.le_trans (Nat.le_trans (Nat.le_trans hk124 K125.1) E133.1) K134.1) E135.1) K136.1)) (v := some (.int (1 : Int32))) (fun h => by rw [Bd.returns] at h; cases h)
          refine ⟨_, _, pre122 _ ?_, hrun, hended, _, _, rfl, ⟨rfl, N140⟩, hRW.1, hRW.2.1, hRW.2.2.1, hRW.2.2.2.mono (by decide) (by decide)⟩
          show Steps p.tables e below (T121.setTop (mkF m 77 #[.val (.int p1), .val (.long p2), .second, .val (.int p3), .val (.int p4), .val (.int (1 : Int32)), .val (.ref b120_0), .val (.ref w_BIGINT), .unset, .unset, .unset, .unset, .unset] [(.int y3)])) _
          refine XS.ifYes X121.here hx rfl (pc0 := 77) (pc' := 84) rfl (hb hby at_77) rfl ((if0 _ _).trans (teq hf122).1) (by decide) (by decide) ?_
          show Steps p.tables e below (T121.setTop (mkF m 84 #[.val (.int p1), .val (.long p2), .second, .val (.int p3), .val (.int p4), .val (.int (1 : Int32)), .val (.ref b120_0), .val (.ref w_BIGINT), .unset, .unset, .unset, .unset, .unset] [])) _
          refine XS.iconst X121.here hx rfl (hb hby at_84) ?_
          refine XS.istore X121.here hx rfl (hb hby at_85) rfl (l' := #[.val (.int p1), .val (.long p2), .second, .val (.int p3), .val (.int p4), .val (.int (1 : Int32)), .val (.ref b120_0), .val (.ref w_BIGINT), .val (.int (0 : Int32)), .unset, .unset, .unset, .unset]) rfl ?_
          show Steps p.tables e below (T121.setTop (mkF m 87 #[.val (.int p1), .val (.long p2), .second, .val (.int p3), .val (.int p4), .val (.int (1 : Int32)), .val (.ref b120_0), .val (.ref w_BIGINT), .val (.int (0 : Int32)), .unset, .unset, .unset, .unset] [])) _
          refine st123 _ ?_
          show Steps p.tables e below (T123.setTop (mkF m 90 #[.val (.int p1), .val (.long p2), .second, .val (.int p3), .val (.int p4), .val (.int (1 : Int32)), .val (.ref b120_0), .val (.ref w_BIGINT), .val (.int (0 : Int32)), .unset, .unset, .unset, .unset] [(.ref b123)])) _
          refine XS.dup X123.here hx rfl (hb hby at_90) rfl rfl ?_
          refine st124 _ ?_
          refine XS.iconst X124.here hx rfl (hb hby at_93) ?_
          refine XS.aload X124.here hx rfl (hb hby at_94) rfl rfl ?_
          show Steps p.tables e below (T124.setTop (mkF m 96 #[.val (.int p1), .val (.long p2), .second, .val (.int p3), .val (.int p4), .val (.int (1 : Int32)), .val (.ref b120_0), .val (.ref w_BIGINT), .val (.int (0 : Int32)), .unset, .unset, .unset, .unset] [(.ref w_BIGINT), (.int (-1 : Int32)), (.ref b124), (.ref b123), (.ref b123)])) _
          refine X124.ldcInt hx hown124 (mvT hZ124 (wd0 hw)) (g := (mkF m 96 #[.val (.int p1), .val (.long p2), .second, .val (.int p3), .val (.int p4), .val (.int (1 : Int32)), .val (.ref b120_0), .val (.ref w_BIGINT), .val (.int (0 : Int32)), .unset, .unset, .unset, .unset] [(.ref w_BIGINT), (.int (-1 : Int32)), (.ref b124), (.ref b123), (.ref b123)])) rfl (hb hby at_96) _ ?_
          refine XS.iconst X124.here hx rfl (hb hby at_98) ?_
          refine XS.iload X124.here hx rfl (hb hby at_99) rfl ?_
          show Steps p.tables e below (T124.setTop (mkF m 101 #[.val (.int p1), .val (.long p2), .second, .val (.int p3), .val (.int p4), .val (.int (1 : Int32)), .val (.ref b120_0), .val (.ref w_BIGINT), .val (.int (0 : Int32)), .unset, .unset, .unset, .unset] [(.int (0 : Int32)), (.int (0 : Int32)), (.int (2147483647 : Int32)), (.ref w_BIGINT), (.int (-1 : Int32)), (.ref b124), (.ref b123), (.ref b123)])) _
          refine st125.trans ?_
          show Steps p.tables e below (T125.setTop (mkF m 104 #[.val (.int p1), .val (.long p2), .second, .val (.int p3), .val (.int p4), .val (.int (1 : Int32)), .val (.ref b120_0), .val (.ref w_BIGINT), .val (.int (0 : Int32)), .unset, .unset, .unset, .unset] [(.ref b123)])) _
          refine XS.astore X125.here hx rfl (hb hby at_104) rfl rfl (l' := #[.val (.int p1), .val (.long p2), .second, .val (.int p3), .val (.int p4), .val (.int (1 : Int32)), .val (.ref b120_0), .val (.ref w_BIGINT), .val (.int (0 : Int32)), .val (.ref b123), .unset, .unset, .unset]) rfl ?_
          show Steps p.tables e below (T125.setTop (mkF m 106 #[.val (.int p1), .val (.long p2), .second, .val (.int p3), .val (.int p4), .val (.int (1 : Int32)), .val (.ref b120_0), .val (.ref w_BIGINT), .val (.int (0 : Int32)), .val (.ref b123), .unset, .unset, .unset] [])) _
          refine st133 _ ?_
          show Steps p.tables e below (T133.setTop (mkF m 109 #[.val (.int p1), .val (.long p2), .second, .val (.int p3), .val (.int p4), .val (.int (1 : Int32)), .val (.ref b120_0), .val (.ref w_BIGINT), .val (.int (0 : Int32)), .val (.ref b123), .unset, .unset, .unset] [(.ref b133)])) _
          refine XS.dup X133.here hx rfl (hb hby at_109) rfl rfl ?_
          refine XS.aload X133.here hx rfl (hb hby at_110) rfl rfl ?_
          refine XS.aload X133.here hx rfl (hb hby at_112) rfl rfl ?_
          show Steps p.tables e below (T133.setTop (mkF m 114 #[.val (.int p1), .val (.long p2), .second, .val (.int p3), .val (.int p4), .val (.int (1 : Int32)), .val (.ref b120_0), .val (.ref w_BIGINT), .val (.int (0 : Int32)), .val (.ref b123), .unset, .unset, .unset] [(.ref b123), (.ref b120_0), (.ref b133), (.ref b133)])) _
          refine st134.trans ?_
          show Steps p.tables e below (T134.setTop (mkF m 117 #[.val (.int p1), .val (.long p2), .second, .val (.int p3), .val (.int p4), .val (.int (1 : Int32)), .val (.ref b120_0), .val (.ref w_BIGINT), .val (.int (0 : Int32)), .val (.ref b123), .unset, .unset, .unset] [(.ref b133)])) _
          refine XS.astore X134.here hx rfl (hb hby at_117) rfl rfl (l' := #[.val (.int p1), .val (.long p2), .second, .val (.int p3), .val (.int p4), .val (.int (1 : Int32)), .val (.ref b120_0), .val (.ref w_BIGINT), .val (.int (0 : Int32)), .val (.ref b123), .val (.ref b133), .unset, .unset]) rfl ?_
          show Steps p.tables e below (T134.setTop (mkF m 119 #[.val (.int p1), .val (.long p2), .second, .val (.int p3), .val (.int p4), .val (.int (1 : Int32)), .val (.ref b120_0), .val (.ref w_BIGINT), .val (.int (0 : Int32)), .val (.ref b123), .val (.ref b133), .unset, .unset] [])) _
          refine st135 _ ?_
          show Steps p.tables e below (T135.setTop (mkF m 122 #[.val (.int p1), .val (.long p2), .second, .val (.int p3), .val (.int p4), .val (.int (1 : Int32)), .val (.ref b120_0), .val (.ref w_BIGINT), .val (.int (0 : Int32)), .val (.ref b123), .val (.ref b133), .unset, .unset] [(.ref b135)])) _
          refine XS.dup X135.here hx rfl (hb hby at_122) rfl rfl ?_
          show Steps p.tables e below (T135.setTop (mkF m 123 #[.val (.int p1), .val (.long p2), .second, .val (.int p3), .val (.int p4), .val (.int (1 : Int32)), .val (.ref b120_0), .val (.ref w_BIGINT), .val (.int (0 : Int32)), .val (.ref b123), .val (.ref b133), .unset, .unset] [(.ref b135), (.ref b135)])) _
          refine st136.trans ?_
          show Steps p.tables e below (T136.setTop (mkF m 126 #[.val (.int p1), .val (.long p2), .second, .val (.int p3), .val (.int p4), .val (.int (1 : Int32)), .val (.ref b120_0), .val (.ref w_BIGINT), .val (.int (0 : Int32)), .val (.ref b123), .val (.ref b133), .unset, .unset] [(.ref b135)])) _
          refine XS.astore X136.here hx rfl (hb hby at_126) rfl rfl (l' := #[.val (.int p1), .val (.long p2), .second, .val (.int p3), .val (.int p4), .val (.int (1 : Int32)), .val (.ref b120_0), .val (.ref w_BIGINT), .val (.int (0 : Int32)), .val (.ref b123), .val (.ref b133), .val (.ref b135), .unset]) rfl ?_
          refine XS.aload X136.here hx rfl (hb hby at_128) rfl rfl ?_
          show Steps p.tables e below (T136.setTop (mkF m 130 #[.val (.int p1), .val (.long p2), .second, .val (.int p3), .val (.int p4), .val (.int (1 : Int32)), .val (.ref b120_0), .val (.ref w_BIGINT), .val (.int (0 : Int32)), .val (.ref b123), .val (.ref b133), .val (.ref b135), .unset] [(.ref b133)])) _
          refine st137.trans ?_
          show Steps p.tables e below (T137.setTop (mkF m 133 #[.val (.int p1), .val (.long p2), .second, .val (.int p3), .val (.int p4), .val (.int (1 : Int32)), .val (.ref b120_0), .val (.ref w_BIGINT), .val (.int (0 : Int32)), .val (.ref b123), .val (.ref b133), .val (.ref b135), .unset] [(.int (0 : Int32))])) _
          refine XS.istore X137.here hx rfl (hb hby at_133) rfl (l' := #[.val (.int p1), .val (.long p2), .second, .val (.int p3), .val (.int p4), .val (.int (1 : Int32)), .val (.ref b120_0), .val (.ref w_BIGINT), .val (.int (0 : Int32)), .val (.ref b123), .val (.ref b133), .val (.ref b135), .val (.int (0 : Int32))]) rfl ?_
          refine XS.iload X137.here hx rfl (hb hby at_135) rfl ?_
          refine XS.iload X137.here hx rfl (hb hby at_137) rfl ?_
          show Steps p.tables e below (T137.setTop (mkF m 139 #[.val (.int p1), .val (.long p2), .second, .val (.int p3), .val (.int p4), .val (.int (1 : Int32)), .val (.ref b120_0), .val (.ref w_BIGINT), .val (.int (0 : Int32)), .val (.ref b123), .val (.ref b133), .val (.ref b135), .val (.int (0 : Int32))] [(.int (1 : Int32)), (.int (0 : Int32))])) _
          refine XS.ifYes X137.here hx rfl (pc0 := 139) (pc' := 146) rfl (hb hby at_139) rfl ((if0 _ _).trans (feq (by decide : ¬ ((1 : Int32) = (0 : Int32)))).2) (by decide) (by decide) ?_
          show Steps p.tables e below (T137.setTop (mkF m 146 #[.val (.int p1), .val (.long p2), .second, .val (.int p3), .val (.int p4), .val (.int (1 : Int32)), .val (.ref b120_0), .val (.ref w_BIGINT), .val (.int (0 : Int32)), .val (.ref b123), .val (.ref b133), .val (.ref b135), .val (.int (0 : Int32))] [(.int (0 : Int32))])) _
          refine XS.iconst X137.here hx rfl (hb hby at_146) ?_
          show Steps p.tables e below (T137.setTop (mkF m 147 #[.val (.int p1), .val (.long p2), .second, .val (.int p3), .val (.int p4), .val (.int (1 : Int32)), .val (.ref b120_0), .val (.ref w_BIGINT), .val (.int (0 : Int32)), .val (.ref b123), .val (.ref b133), .val (.ref b135), .val (.int (0 : Int32))] [(.int (0 : Int32)), (.int (0 : Int32))])) _
          refine XS.icmpNo X137.here hx rfl (hb hby at_147) rfl (teq (rfl : (0 : Int32) = (0 : Int32))).2 ?_
          show Steps p.tables e below (T137.setTop (mkF m 150 #[.val (.int p1), .val (.long p2), .second, .val (.int p3), .val (.int p4), .val (.int (1 : Int32)), .val (.ref b120_0), .val (.ref w_BIGINT), .val (.int (0 : Int32)), .val (.ref b123), .val (.ref b133), .val (.ref b135), .val (.int (0 : Int32))] [])) _
          refine XS.iload X137.here hx rfl (hb hby at_150) rfl ?_
          refine XS.aload X137.here hx rfl (hb hby at_152) rfl rfl ?_
          refine XS.aload X137.here hx rfl (hb hby at_154) rfl rfl ?_
          show Steps p.tables e below (T137.setTop (mkF m 156 #[.val (.int p1), .val (.long p2), .second, .val (.int p3), .val (.int p4), .val (.int (1 : Int32)), .val (.ref b120_0), .val (.ref w_BIGINT), .val (.int (0 : Int32)), .val (.ref b123), .val (.ref b133), .val (.ref b135), .val (.int (0 : Int32))] [(.ref b135), (.ref b133), (.int (0 : Int32))])) _
          refine st140.trans ?_
          show Steps p.tables e below (T140.setTop (mkF m 159 #[.val (.int p1), .val (.long p2), .second, .val (.int p3), .val (.int p4), .val (.int (1 : Int32)), .val (.ref b120_0), .val (.ref w_BIGINT), .val (.int (0 : Int32)), .val (.ref b123), .val (.ref b133), .val (.ref b135), .val (.int (0 : Int32))] [(.ref b120_0), (.int (0 : Int32))])) _
          refine XS.ifnonnullYes X140.here hx rfl (pc0 := 159) (pc' := 166) rfl (hb hby at_159) rfl (by decide) (by decide) ?_
          show Steps p.tables e below (T140.setTop (mkF m 166 #[.val (.int p1), .val (.long p2), .second, .val (.int p3), .val (.int p4), .val (.int (1 : Int32)), .val (.ref b120_0), .val (.ref w_BIGINT), .val (.int (0 : Int32)), .val (.ref b123), .val (.ref b133), .val (.ref b135), .val (.int (0 : Int32))] [(.int (0 : Int32))])) _
          refine XS.iconst X140.here hx rfl (hb hby at_166) ?_
          show Steps p.tables e below (T140.setTop (mkF m 167 #[.val (.int p1), .val (.long p2), .second, .val (.int p3), .val (.int p4), .val (.int (1 : Int32)), .val (.ref b120_0), .val (.ref w_BIGINT), .val (.int (0 : Int32)), .val (.ref b123), .val (.ref b133), .val (.ref b135), .val (.int (0 : Int32))] [(.int (0 : Int32)), (.int (0 : Int32))])) _
          refine XS.icmpNo X140.here hx rfl (hb hby at_167) rfl (teq (rfl : (0 : Int32) = (0 : Int32))).2 ?_
          show Steps p.tables e below (T140.setTop (mkF m 170 #[.val (.int p1), .val (.long p2), .second, .val (.int p3), .val (.int p4), .val (.int (1 : Int32)), .val (.ref b120_0), .val (.ref w_BIGINT), .val (.int (0 : Int32)), .val (.ref b123), .val (.ref b133), .val (.ref b135), .val (.int (0 : Int32))] [])) _
          refine XS.iconst X140.here hx rfl (hb hby at_170) ?_
          refine XS.goto X140.here hx rfl (pc0 := 171) (pc' := 175) rfl (hb hby at_171) (by decide) (by decide) ?_
          show Steps p.tables e below (T140.setTop (mkF m 175 #[.val (.int p1), .val (.long p2), .second, .val (.int p3), .val (.int p4), .val (.int (1 : Int32)), .val (.ref b120_0), .val (.ref w_BIGINT), .val (.int (0 : Int32)), .val (.ref b123), .val (.ref b133), .val (.ref b135), .val (.int (0 : Int32))] [(.int (1 : Int32))])) _
          exact retN X140 hx (t := .boolean) Bd.returns (by simp) (hb hby at_175) hr
        · obtain ⟨T141, h141, X141, e141, E141, A141, D141, -, st141⟩ := newO X121 hx hZ hown (wd4 hw) (wd5 hw) (wd6 hw) e121 (g := (mkF m 87 #[.val (.int p1), .val (.long p2), .second, .val (.int p3), .val (.int p4), .val (.int (1 : Int32)), .val (.ref b120_0), .val (.ref w_BIGINT), .val (.int (1 : Int32)), .unset, .unset, .unset, .unset] [])) rfl (hb hby at_87) (by decide) (by decide)
          obtain ⟨b141, g141⟩ : ∃ z, z = T120.heap.size := ⟨_, rfl⟩
          rw [← g141] at A141 D141 st141
          have g_b141 : n0 ≤ b141 := (Nat.le_trans (Nat.le_trans (Nat.le_of_eq OL120.1.symm) OL120.2.1) (Nat.le_of_eq g141.symm))
          have sz_b141 : h0.size ≤ b141 := (Nat.le_trans KK120.1 (Nat.le_of_eq g141.symm))
          have KK141 : Keep h0 h141 [] := KK120.ext E141
          have OL141 := OL120.ext E141
          have F_name_b141 : Fld Z h141 b141 "com/example/rowforge/rowforge/Column" "name" "Ljava/lang/String;" .null := D141 (Or.inr (wd27 hw)) (ty := (.object "java/lang/String")) (by decide)
          have F_position_b141 : Fld Z h141 b141 "com/example/rowforge/rowforge/Column" "position" "I" (.int (0 : Int32)) := D141 (Or.inr (wd29 hw)) (ty := .int) (by decide)
          have F_type_b141 : Fld Z h141 b141 "com/example/rowforge/rowforge/Column" "type" "Lcom/example/rowforge/rowforge/SqlType;" .null := D141 (Or.inr (wd31 hw)) (ty := (.object "com/example/rowforge/rowforge/SqlType")) (by decide)
          have F_length_b141 : Fld Z h141 b141 "com/example/rowforge/rowforge/Column" "length" "I" (.int (0 : Int32)) := D141 (Or.inr (wd33 hw)) (ty := .int) (by decide)
          have F_scale_b141 : Fld Z h141 b141 "com/example/rowforge/rowforge/Column" "scale" "I" (.int (0 : Int32)) := D141 (Or.inr (wd35 hw)) (ty := .int) (by decide)
          have F_nullable_b141 : Fld Z h141 b141 "com/example/rowforge/rowforge/Column" "nullable" "Z" (.int (0 : Int32)) := D141 (Or.inr (wd37 hw)) (ty := .boolean) (by decide)
          obtain ⟨b142, T142, h142, k142, X142, e142, E142, hS142, hk142, hZ142, hown142, st142⟩ := ldcS (s := s) (vm0 := s.vm) X141 hx hZ hown (wd7 hw) (own_wS hw) e141 ((State.WarmedH.refl s).since 0) (Nat.le_trans (Nat.le_trans (Nat.zero_le _) K120.1) E141.1) (g := (mkF m 91 #[.val (.int p1), .val (.long p2), .second, .val (.int p3), .val (.int p4), .val (.int (1 : Int32)), .val (.ref b120_0), .val (.ref w_BIGINT), .val (.int (1 : Int32)), .unset, .unset, .unset, .unset] [(.ref b141), (.ref b141)])) rfl (hb hby at_91) (n := 32) (by decide) (by decide) (by decide) (by decide)
          have KK142 : Keep h0 h142 [] := KK141.ext E142
          have OL142 := OL141.ext E142
          have fc144 := (A141.ext E142)
          have fc145 := (F_name_b141.ext E142)
          have fc146 := (F_position_b141.ext E142)
          have fc147 := (F_type_b141.ext E142)
          have fc148 := (F_length_b141.ext E142)
          have fc149 := (F_scale_b141.ext E142)
          have fc150 := (F_nullable_b141.ext E142)
          obtain ⟨_, _, ⟨T143, L143, k143, n143⟩, -, X143, ⟨Lc143, hQ143, l143, y143, z143⟩, st143⟩ := X142.specialBack hx (y := (⟨"com/example/rowforge/rowforge/Column", "<init>", "(Ljava/lang/String;ILcom/example/rowforge/rowforge/SqlType;IIZ)V"⟩ : MethodName)) rfl hown142 (mvT hZ142 (wd15 hw)) (mvT hZ142 (wd16 hw)) (mvT hZ142 (wd17 hw)) (by decide) (backOf (W := 1) (rm1_1 l Z a0 hw [] b141 b142 w_BIGINT h142 n0 OL142 fc144 fc145 g_b141 fc146 fc147 fc148 fc149 fc150) hZ142 (wd17 hw) (wd6 hw) (by decide) (by decide)) (g := (mkF m 101 #[.val (.int p1), .val (.long p2), .second, .val (.int p3), .val (.int p4), .val (.int (1 : Int32)), .val (.ref b120_0), .val (.ref w_BIGINT), .val (.int (1 : Int32)), .unset, .unset, .unset, .unset] [(.int (1 : Int32)), (.int (0 : Int32)), (.int (2147483647 : Int32)), (.ref w_BIGINT), (.int (-1 : Int32)), (.ref b142), (.ref b141), (.ref b141)])) rfl (by rw [hml]; rfl) (Steps.refl _) (a := b141) (argsL := [(.ref b142), (.int (-1 : Int32)), (.ref w_BIGINT), (.int (2147483647 : Int32)), (.int (0 : Int32)), (.int (1 : Int32))]) (rest := [(.ref b141)]) (lenOf pd_1 rfl) rfl (by show 2 * 0 + _ ≤ _; exact Nat.le_of_eq rfl) (hb hby at_101) (fun _ _ => ⟨rfl, e142, (by decide : 4 + 0 ≤ _), (by decide : 43 + 0 ≤ _)⟩)
          dsimp only [Pt.U, Pt.locs, Pt.cells, Pt.slots] at X143 l143 y143 z143 st143 hQ143
          subst l143 y143 z143
          obtain ⟨rfl, Nq143, K143, u143_0, u143_1, u143_2, u143_3, u143_4, u143_5⟩ := hQ143
          have KK143 : Keep h0 T143.heap [] := KK142.trans K143 (allS (Or.inr sz_b141) all0)
          have OL143 := OL142.keep K143 (allS g_b141 all0)
          have N143 := Fr.app N120 Nq143
          obtain ⟨T151, h151, X151, e151, E151, A151, D151, -, st151⟩ := newO X143 hx hZ142 hown142 (wd38 hw) (wd39 hw) (wd40 hw) rfl (g := (mkF m 106 #[.val (.int p1), .val (.long p2), .second, .val (.int p3), .val (.int p4), .val (.int (1 : Int32)), .val (.ref b120_0), .val (.ref w_BIGINT), .val (.int (1 : Int32)), .val (.ref b141), .unset, .unset, .unset] [])) rfl (hb hby at_106) (by decide) (by decide)
          obtain ⟨b151, g151⟩ : ∃ z, z = T143.heap.size := ⟨_, rfl⟩
          rw [← g151] at A151 D151 st151
          have g_b151 : n0 ≤ b151 := (Nat.le_trans (Nat.le_trans (Nat.le_of_eq OL143.1.symm) OL143.2.1) (Nat.le_of_eq g151.symm))
          have sz_b151 : h0.size ≤ b151 := (Nat.le_trans KK143.1 (Nat.le_of_eq g151.symm))
          have KK151 : Keep h0 h151 [] := KK143.ext E151
          have OL151 := OL143.ext E151
          have F_value_b151 : Fld Z h151 b151 "com/example/rowforge/rowforge/Field$Constant" "value" "Ljava/lang/Object;" .null := D151 (Or.inr (wd46 hw)) (ty := (.object "java/lang/Object")) (by decide)
          have F_column_b151 : Fld Z h151 b151 "com/example/rowforge/rowforge/Field$Constant" "column" "Lcom/example/rowforge/rowforge/Column;" .null := D151 (Or.inr (wd48 hw)) (ty := (.object "com/example/rowforge/rowforge/Column")) (by decide)
          obtain ⟨_, _, ⟨T152, L152, k152, n152⟩, -, X152, ⟨Lc152, hQ152, l152, y152, z152⟩, st152⟩ := X151.specialBack hx (y := (⟨"com/example/rowforge/rowforge/Field$Constant", "<init>", "(Ljava/lang/Object;Lcom/example/rowforge/rowforge/Column;)V"⟩ : MethodName)) rfl hown142 (mvT hZ142 (wd41 hw)) (mvT hZ142 (wd42 hw)) (mvT hZ142 (wd43 hw)) (by decide) (backOf (W := 1) (rm4_1 l Z a0 hw [] b151 b120_0 b141 h151 n0 OL151 A151 F_value_b151 g_b151 F_column_b151) hZ142 (wd43 hw) (wd40 hw) (by decide) (by decide)) (g := (mkF m 114 #[.val (.int p1), .val (.long p2), .second, .val (.int p3), .val (.int p4), .val (.int (1 : Int32)), .val (.ref b120_0), .val (.ref w_BIGINT), .val (.int (1 : Int32)), .val (.ref b141), .unset, .unset, .unset] [(.ref b141), (.ref b120_0), (.ref b151), (.ref b151)])) rfl (by rw [hml]; rfl) (Steps.refl _) (a := b151) (argsL := [(.ref b120_0), (.ref b141)]) (rest := [(.ref b151)]) (lenOf pd_2 rfl) rfl (by show 2 * 0 + _ ≤ _; exact Nat.le_of_eq rfl) (hb hby at_114) (fun _ _ => ⟨rfl, e151, (by decide : 5 + 0 ≤ _), (by decide : 45 + 0 ≤ _)⟩)
          dsimp only [Pt.U, Pt.locs, Pt.cells, Pt.slots] at X152 l152 y152 z152 st152 hQ152
          subst l152 y152 z152
          obtain ⟨rfl, Nq152, K152, u152_0, u152_1⟩ := hQ152
          have KK152 : Keep h0 T152.heap [] := KK151.trans K152 (allS (Or.inr sz_b151) all0)
          have OL152 := OL151.keep K152 (allS g_b151 all0)
          have N152 := Fr.app N143 Nq152
          obtain ⟨T153, h153, X153, e153, E153, A153, D153, -, st153⟩ := newO X152 hx hZ142 hown142 (wd49 hw) (wd50 hw) (wd51 hw) rfl (g := (mkF m 119 #[.val (.int p1), .val (.long p2), .second, .val (.int p3), .val (.int p4), .val (.int (1 : Int32)), .val (.ref b120_0), .val (.ref w_BIGINT), .val (.int (1 : Int32)), .val (.ref b141), .val (.ref b151), .unset, .unset] [])) rfl (hb hby at_119) (by decide) (by decide)
          obtain ⟨b153, g153⟩ : ∃ z, z = T152.heap.size := ⟨_, rfl⟩
          rw [← g153] at A153 D153 st153
          have g_b153 : n0 ≤ b153 := (Nat.le_trans (Nat.le_trans (Nat.le_of_eq OL152.1.symm) OL152.2.1) (Nat.le_of_eq g153.symm))
          have sz_b153 : h0.size ≤ b153 := (Nat.le_trans KK152.1 (Nat.le_of_eq g153.symm))
          have KK153 : Keep h0 h153 [] := KK152.ext E153
          have OL153 := OL152.ext E153
          have F_modCount_b153 : Fld Z h153 b153 "java/util/AbstractList" "modCount" "I" (.int (0 : Int32)) := D153 (Or.inl (wd69 hw)) (ty := .int) (by decide)
          have F_elementData_b153 : Fld Z h153 b153 "java/util/ArrayList" "elementData" "[Ljava/lang/Object;" .null := D153 (Or.inl (wd72 hw)) (ty := (.array (.object "java/lang/Object"))) (by decide)
          obtain ⟨_, _, ⟨T154, L154, k154, n154⟩, -, X154, ⟨Lc154, hQ154, l154, y154, z154⟩, st154⟩ := X153.specialBack hx (y := (⟨"java/util/ArrayList", "<init>", "()V"⟩ : MethodName)) rfl hown142 (mvT hZ142 (wd52 hw)) (mvT hZ142 (wd53 hw)) (mvT hZ142 (wd54 hw)) (by decide) (backOf (W := 1) (rm5_0 l Z a0 hw [] b153 w_DEFAULTCAPACITY_EMPTY_ELEMENTDATA h153 n0 OL153 A153 F_modCount_b153 g_b153 F_elementData_b153 pr5) hZ142 (wd54 hw) (wd51 hw) (by decide) (by decide)) (g := (mkF m 123 #[.val (.int p1), .val (.long p2), .second, .val (.int p3), .val (.int p4), .val (.int (1 : Int32)), .val (.ref b120_0), .val (.ref w_BIGINT), .val (.int (1 : Int32)), .val (.ref b141), .val (.ref b151), .unset, .unset] [(.ref b153), (.ref b153)])) rfl (by rw [hml]; rfl) (Steps.refl _) (a := b153) (argsL := []) (rest := [(.ref b153)]) (lenOf pd_0 rfl) rfl (by show 2 * 0 + _ ≤ _; exact Nat.le_of_eq rfl) (hb hby at_123) (fun _ _ => ⟨rfl, e153, (by decide : 6 + 0 ≤ _), (by decide : 48 + 0 ≤ _)⟩)
          dsimp only [Pt.U, Pt.locs, Pt.cells, Pt.slots] at X154 l154 y154 z154 st154 hQ154
          subst l154 y154 z154
          obtain ⟨rfl, Nq154, K154, u154_0, u154_1⟩ := hQ154
          have KK154 : Keep h0 T154.heap [] := KK153.trans K154 (allS (Or.inr sz_b153) all0)
          have OL154 := OL153.keep K154 (allS g_b153 all0)
          have N154 := Fr.app N152 Nq154
          have fc156 := ((u152_0.ext E153).keep K154 (ninS (Nat.ne_of_lt (Nat.lt_of_lt_of_le u152_1.lt (Nat.le_of_eq g153.symm))) nin0))
          have fc157 := (((A151.keep K152).ext E153).keep K154)
          obtain ⟨cq155, kq155, q155a, q155b, q155c⟩ := isOf hZ142 rfl fc157
          obtain ⟨_, _, ⟨T155, L155, k155, n155⟩, -, X155, ⟨Lc155, hQ155, l155, y155, z155⟩, st155⟩ := X154.virtualBack hx (y := (⟨"com/example/rowforge/rowforge/Field$Constant", "nullable", "()Z"⟩ : MethodName)) (z := (⟨"com/example/rowforge/rowforge/Field$Constant", "nullable", "()Z"⟩ : MethodName)) hown142 (mvT hZ142 (wd73 hw)) (mvT hZ142 (wd74 hw)) (notFace_of_selects (args := #[]) (mvT hZ142 (wd76 hw))) (mvT hZ142 (wd76 hw)) (mvT hZ142 (wd75 hw)) (by decide) (backOf (W := 0) (rm8_1 l Z a0 hw [] b151 b120_0 T154.heap n0 OL154 fc156) hZ142 (wd77 hw) (wd40 hw) (by decide) (by decide)) q155a q155c (g := (mkF m 130 #[.val (.int p1), .val (.long p2), .second, .val (.int p3), .val (.int p4), .val (.int (1 : Int32)), .val (.ref b120_0), .val (.ref w_BIGINT), .val (.int (1 : Int32)), .val (.ref b141), .val (.ref b151), .val (.ref b153), .unset] [(.ref b151)])) rfl (by rw [hml]; rfl) (Steps.refl _) (argsL := []) (rest := []) (lenOf pd_3 rfl) rfl (by show 2 * 0 + _ ≤ _; exact Nat.le_of_eq rfl) (hb hby at_130) (fun _ _ => ⟨rfl, rfl, (by decide : 6 + 0 ≤ _), (by decide : 48 + 0 ≤ _)⟩)
          dsimp only [Pt.U, Pt.locs, Pt.cells, Pt.slots] at X155 l155 y155 z155 st155 hQ155
          subst l155 y155 z155
          obtain ⟨rfl, Nq155, ec155⟩ := hQ155
          have N155 := Fr.app N154 Nq155
          obtain ⟨cq158, kq158, q158a, q158b, q158c⟩ := isOf hZ142 ec155 fc157
          obtain ⟨_, _, ⟨T158, L158, k158, n158⟩, -, X158, ⟨Lc158, hQ158, l158, y158, z158⟩, st158⟩ := X155.virtualBack hx (y := (⟨"com/example/rowforge/rowforge/Field$Constant", "value", "(Ljava/util/List;)Ljava/lang/Object;"⟩ : MethodName)) (z := (⟨"com/example/rowforge/rowforge/Field$Constant", "value", "(Ljava/util/List;)Ljava/lang/Object;"⟩ : MethodName)) hown142 (mvT hZ142 (wd78 hw)) (mvT hZ142 (wd79 hw)) (notFace_of_selects (args := #[]) (mvT hZ142 (wd81 hw))) (mvT hZ142 (wd81 hw)) (mvT hZ142 (wd80 hw)) (by decide) (backOf (W := 1) (rm9_1 l Z a0 hw [] b151 b153 b120_0 T154.heap n0 OL154 fc156) hZ142 (wd82 hw) (wd40 hw) (by decide) (by decide)) q158a q158c (g := (mkF m 156 #[.val (.int p1), .val (.long p2), .second, .val (.int p3), .val (.int p4), .val (.int (1 : Int32)), .val (.ref b120_0), .val (.ref w_BIGINT), .val (.int (1 : Int32)), .val (.ref b141), .val (.ref b151), .val (.ref b153), .val (.int (0 : Int32))] [(.ref b153), (.ref b151), (.int (0 : Int32))])) rfl (by rw [hml]; rfl) (Steps.refl _) (argsL := [(.ref b153)]) (rest := [(.int (0 : Int32))]) (lenOf pd_4 rfl) rfl (by show 2 * 0 + _ ≤ _; exact Nat.le_of_eq rfl) (hb hby at_156) (fun _ _ => ⟨rfl, ec155, (by decide : 6 + 0 ≤ _), (by decide : 48 + 0 ≤ _)⟩)
          dsimp only [Pt.U, Pt.locs, Pt.cells, Pt.slots] at X158 l158 y158 z158 st158 hQ158
          subst l158 y158 z158
          obtain ⟨rfl, Nq158, ec158⟩ := hQ158
          have N158 := Fr.app N155 Nq158
          obtain ⟨fs, hr, hrun, hended, hRW⟩ := X158.leaveW (s := s) hS142 (by rw [ec158]; exact (Nat.le_trans (Nat.le_trans (Nat.le_trans (Nat.le_trans (Nat.le_trans hk142 K143.1) E151.1) K152.1) E153.1) K154.1)) (v := some (.int (1 : Int32))) (fun h => by rw [Bd.returns] at h; cases h)
          refine ⟨_, _, pre122 _ ?_, hrun, hended, _, _, rfl, ⟨rfl, N158⟩, hRW.1, hRW.2.1, hRW.2.2.1, hRW.2.2.2.mono (by decide) (by decide)⟩
          show Steps p.tables e below (T121.setTop (mkF m 77 #[.val (.int p1), .val (.long p2), .second, .val (.int p3), .val (.int p4), .val (.int (1 : Int32)), .val (.ref b120_0), .val (.ref w_BIGINT), .unset, .unset, .unset, .unset, .unset] [(.int y3)])) _
          refine XS.ifNo X121.here hx rfl (hb hby at_77) rfl ((if0 _ _).trans (feq hf122).1) ?_
          show Steps p.tables e below (T121.setTop (mkF m 80 #[.val (.int p1), .val (.long p2), .second, .val (.int p3), .val (.int p4), .val (.int (1 : Int32)), .val (.ref b120_0), .val (.ref w_BIGINT), .unset, .unset, .unset, .unset, .unset] [])) _
          refine XS.iconst X121.here hx rfl (hb hby at_80) ?_
          refine XS.goto X121.here hx rfl (pc0 := 81) (pc' := 85) rfl (hb hby at_81) (by decide) (by decide) ?_
          refine XS.istore X121.here hx rfl (hb hby at_85) rfl (l' := #[.val (.int p1), .val (.long p2), .second, .val (.int p3), .val (.int p4), .val (.int (1 : Int32)), .val (.ref b120_0), .val (.ref w_BIGINT), .val (.int (1 : Int32)), .unset, .unset, .unset, .unset]) rfl ?_
          show Steps p.tables e below (T121.setTop (mkF m 87 #[.val (.int p1), .val (.long p2), .second, .val (.int p3), .val (.int p4), .val (.int (1 : Int32)), .val (.ref b120_0), .val (.ref w_BIGINT), .val (.int (1 : Int32)), .unset, .unset, .unset, .unset] [])) _
          refine st141 _ ?_
          show Steps p.tables e below (T141.setTop (mkF m 90 #[.val (.int p1), .val (.long p2), .second, .val (.int p3), .val (.int p4), .val (.int (1 : Int32)), .val (.ref b120_0), .val (.ref w_BIGINT), .val (.int (1 : Int32)), .unset, .unset, .unset, .unset] [(.ref b141)])) _
          refine XS.dup X141.here hx rfl (hb hby at_90) rfl rfl ?_
          refine st142 _ ?_
          refine XS.iconst X142.here hx rfl (hb hby at_93) ?_
          refine XS.aload X142.here hx rfl (hb hby at_94) rfl rfl ?_
          show Steps p.tables e below (T142.setTop (mkF m 96 #[.val (.int p1), .val (.long p2), .second, .val (.int p3), .val (.int p4), .val (.int (1 : Int32)), .val (.ref b120_0), .val (.ref w_BIGINT), .val (.int (1 : Int32)), .unset, .unset, .unset, .unset] [(.ref w_BIGINT), (.int (-1 : Int32)), (.ref b142), (.ref b141), (.ref b141)])) _
          refine X142.ldcInt hx hown142 (mvT hZ142 (wd0 hw)) (g := (mkF m 96 #[.val (.int p1), .val (.long p2), .second, .val (.int p3), .val (.int p4), .val (.int (1 : Int32)), .val (.ref b120_0), .val (.ref w_BIGINT), .val (.int (1 : Int32)), .unset, .unset, .unset, .unset] [(.ref w_BIGINT), (.int (-1 : Int32)), (.ref b142), (.ref b141), (.ref b141)])) rfl (hb hby at_96) _ ?_
          refine XS.iconst X142.here hx rfl (hb hby at_98) ?_
          refine XS.iload X142.here hx rfl (hb hby at_99) rfl ?_
          show Steps p.tables e below (T142.setTop (mkF m 101 #[.val (.int p1), .val (.long p2), .second, .val (.int p3), .val (.int p4), .val (.int (1 : Int32)), .val (.ref b120_0), .val (.ref w_BIGINT), .val (.int (1 : Int32)), .unset, .unset, .unset, .unset] [(.int (1 : Int32)), (.int (0 : Int32)), (.int (2147483647 : Int32)), (.ref w_BIGINT), (.int (-1 : Int32)), (.ref b142), (.ref b141), (.ref b141)])) _
          refine st143.trans ?_
          show Steps p.tables e below (T143.setTop (mkF m 104 #[.val (.int p1), .val (.long p2), .second, .val (.int p3), .val (.int p4), .val (.int (1 : Int32)), .val (.ref b120_0), .val (.ref w_BIGINT), .val (.int (1 : Int32)), .unset, .unset, .unset, .unset] [(.ref b141)])) _
          refine XS.astore X143.here hx rfl (hb hby at_104) rfl rfl (l' := #[.val (.int p1), .val (.long p2), .second, .val (.int p3), .val (.int p4), .val (.int (1 : Int32)), .val (.ref b120_0), .val (.ref w_BIGINT), .val (.int (1 : Int32)), .val (.ref b141), .unset, .unset, .unset]) rfl ?_
          show Steps p.tables e below (T143.setTop (mkF m 106 #[.val (.int p1), .val (.long p2), .second, .val (.int p3), .val (.int p4), .val (.int (1 : Int32)), .val (.ref b120_0), .val (.ref w_BIGINT), .val (.int (1 : Int32)), .val (.ref b141), .unset, .unset, .unset] [])) _
          refine st151 _ ?_
          show Steps p.tables e below (T151.setTop (mkF m 109 #[.val (.int p1), .val (.long p2), .second, .val (.int p3), .val (.int p4), .val (.int (1 : Int32)), .val (.ref b120_0), .val (.ref w_BIGINT), .val (.int (1 : Int32)), .val (.ref b141), .unset, .unset, .unset] [(.ref b151)])) _
          refine XS.dup X151.here hx rfl (hb hby at_109) rfl rfl ?_
          refine XS.aload X151.here hx rfl (hb hby at_110) rfl rfl ?_
          refine XS.aload X151.here hx rfl (hb hby at_112) rfl rfl ?_
          show Steps p.tables e below (T151.setTop (mkF m 114 #[.val (.int p1), .val (.long p2), .second, .val (.int p3), .val (.int p4), .val (.int (1 : Int32)), .val (.ref b120_0), .val (.ref w_BIGINT), .val (.int (1 : Int32)), .val (.ref b141), .unset, .unset, .unset] [(.ref b141), (.ref b120_0), (.ref b151), (.ref b151)])) _
          refine st152.trans ?_
          show Steps p.tables e below (T152.setTop (mkF m 117 #[.val (.int p1), .val (.long p2), .second, .val (.int p3), .val (.int p4), .val (.int (1 : Int32)), .val (.ref b120_0), .val (.ref w_BIGINT), .val (.int (1 : Int32)), .val (.ref b141), .unset, .unset, .unset] [(.ref b151)])) _
          refine XS.astore X152.here hx rfl (hb hby at_117) rfl rfl (l' := #[.val (.int p1), .val (.long p2), .second, .val (.int p3), .val (.int p4), .val (.int (1 : Int32)), .val (.ref b120_0), .val (.ref w_BIGINT), .val (.int (1 : Int32)), .val (.ref b141), .val (.ref b151), .unset, .unset]) rfl ?_
          show Steps p.tables e below (T152.setTop (mkF m 119 #[.val (.int p1), .val (.long p2), .second, .val (.int p3), .val (.int p4), .val (.int (1 : Int32)), .val (.ref b120_0), .val (.ref w_BIGINT), .val (.int (1 : Int32)), .val (.ref b141), .val (.ref b151), .unset, .unset] [])) _
          refine st153 _ ?_
          show Steps p.tables e below (T153.setTop (mkF m 122 #[.val (.int p1), .val (.long p2), .second, .val (.int p3), .val (.int p4), .val (.int (1 : Int32)), .val (.ref b120_0), .val (.ref w_BIGINT), .val (.int (1 : Int32)), .val (.ref b141), .val (.ref b151), .unset, .unset] [(.ref b153)])) _
          refine XS.dup X153.here hx rfl (hb hby at_122) rfl rfl ?_
          show Steps p.tables e below (T153.setTop (mkF m 123 #[.val (.int p1), .val (.long p2), .second, .val (.int p3), .val (.int p4), .val (.int (1 : Int32)), .val (.ref b120_0), .val (.ref w_BIGINT), .val (.int (1 : Int32)), .val (.ref b141), .val (.ref b151), .unset, .unset] [(.ref b153), (.ref b153)])) _
          refine st154.trans ?_
          show Steps p.tables e below (T154.setTop (mkF m 126 #[.val (.int p1), .val (.long p2), .second, .val (.int p3), .val (.int p4), .val (.int (1 : Int32)), .val (.ref b120_0), .val (.ref w_BIGINT), .val (.int (1 : Int32)), .val (.ref b141), .val (.ref b151), .unset, .unset] [(.ref b153)])) _
          refine XS.astore X154.here hx rfl (hb hby at_126) rfl rfl (l' := #[.val (.int p1), .val (.long p2), .second, .val (.int p3), .val (.int p4), .val (.int (1 : Int32)), .val (.ref b120_0), .val (.ref w_BIGINT), .val (.int (1 : Int32)), .val (.ref b141), .val (.ref b151), .val (.ref b153), .unset]) rfl ?_
          refine XS.aload X154.here hx rfl (hb hby at_128) rfl rfl ?_
          show Steps p.tables e below (T154.setTop (mkF m 130 #[.val (.int p1), .val (.long p2), .second, .val (.int p3), .val (.int p4), .val (.int (1 : Int32)), .val (.ref b120_0), .val (.ref w_BIGINT), .val (.int (1 : Int32)), .val (.ref b141), .val (.ref b151), .val (.ref b153), .unset] [(.ref b151)])) _
          refine st155.trans ?_
          show Steps p.tables e below (T155.setTop (mkF m 133 #[.val (.int p1), .val (.long p2), .second, .val (.int p3), .val (.int p4), .val (.int (1 : Int32)), .val (.ref b120_0), .val (.ref w_BIGINT), .val (.int (1 : Int32)), .val (.ref b141), .val (.ref b151), .val (.ref b153), .unset] [(.int (0 : Int32))])) _
          refine XS.istore X155.here hx rfl (hb hby at_133) rfl (l' := #[.val (.int p1), .val (.long p2), .second, .val (.int p3), .val (.int p4), .val (.int (1 : Int32)), .val (.ref b120_0), .val (.ref w_BIGINT), .val (.int (1 : Int32)), .val (.ref b141), .val (.ref b151), .val (.ref b153), .val (.int (0 : Int32))]) rfl ?_
          refine XS.iload X155.here hx rfl (hb hby at_135) rfl ?_
          refine XS.iload X155.here hx rfl (hb hby at_137) rfl ?_
          show Steps p.tables e below (T155.setTop (mkF m 139 #[.val (.int p1), .val (.long p2), .second, .val (.int p3), .val (.int p4), .val (.int (1 : Int32)), .val (.ref b120_0), .val (.ref w_BIGINT), .val (.int (1 : Int32)), .val (.ref b141), .val (.ref b151), .val (.ref b153), .val (.int (0 : Int32))] [(.int (1 : Int32)), (.int (0 : Int32))])) _
          refine XS.ifYes X155.here hx rfl (pc0 := 139) (pc' := 146) rfl (hb hby at_139) rfl ((if0 _ _).trans (feq (by decide : ¬ ((1 : Int32) = (0 : Int32)))).2) (by decide) (by decide) ?_
          show Steps p.tables e below (T155.setTop (mkF m 146 #[.val (.int p1), .val (.long p2), .second, .val (.int p3), .val (.int p4), .val (.int (1 : Int32)), .val (.ref b120_0), .val (.ref w_BIGINT), .val (.int (1 : Int32)), .val (.ref b141), .val (.ref b151), .val (.ref b153), .val (.int (0 : Int32))] [(.int (0 : Int32))])) _
          refine XS.iconst X155.here hx rfl (hb hby at_146) ?_
          show Steps p.tables e below (T155.setTop (mkF m 147 #[.val (.int p1), .val (.long p2), .second, .val (.int p3), .val (.int p4), .val (.int (1 : Int32)), .val (.ref b120_0), .val (.ref w_BIGINT), .val (.int (1 : Int32)), .val (.ref b141), .val (.ref b151), .val (.ref b153), .val (.int (0 : Int32))] [(.int (0 : Int32)), (.int (0 : Int32))])) _
          refine XS.icmpNo X155.here hx rfl (hb hby at_147) rfl (teq (rfl : (0 : Int32) = (0 : Int32))).2 ?_
          show Steps p.tables e below (T155.setTop (mkF m 150 #[.val (.int p1), .val (.long p2), .second, .val (.int p3), .val (.int p4), .val (.int (1 : Int32)), .val (.ref b120_0), .val (.ref w_BIGINT), .val (.int (1 : Int32)), .val (.ref b141), .val (.ref b151), .val (.ref b153), .val (.int (0 : Int32))] [])) _
          refine XS.iload X155.here hx rfl (hb hby at_150) rfl ?_
          refine XS.aload X155.here hx rfl (hb hby at_152) rfl rfl ?_
          refine XS.aload X155.here hx rfl (hb hby at_154) rfl rfl ?_
          show Steps p.tables e below (T155.setTop (mkF m 156 #[.val (.int p1), .val (.long p2), .second, .val (.int p3), .val (.int p4), .val (.int (1 : Int32)), .val (.ref b120_0), .val (.ref w_BIGINT), .val (.int (1 : Int32)), .val (.ref b141), .val (.ref b151), .val (.ref b153), .val (.int (0 : Int32))] [(.ref b153), (.ref b151), (.int (0 : Int32))])) _
          refine st158.trans ?_
          show Steps p.tables e below (T158.setTop (mkF m 159 #[.val (.int p1), .val (.long p2), .second, .val (.int p3), .val (.int p4), .val (.int (1 : Int32)), .val (.ref b120_0), .val (.ref w_BIGINT), .val (.int (1 : Int32)), .val (.ref b141), .val (.ref b151), .val (.ref b153), .val (.int (0 : Int32))] [(.ref b120_0), (.int (0 : Int32))])) _
          refine XS.ifnonnullYes X158.here hx rfl (pc0 := 159) (pc' := 166) rfl (hb hby at_159) rfl (by decide) (by decide) ?_
          show Steps p.tables e below (T158.setTop (mkF m 166 #[.val (.int p1), .val (.long p2), .second, .val (.int p3), .val (.int p4), .val (.int (1 : Int32)), .val (.ref b120_0), .val (.ref w_BIGINT), .val (.int (1 : Int32)), .val (.ref b141), .val (.ref b151), .val (.ref b153), .val (.int (0 : Int32))] [(.int (0 : Int32))])) _
          refine XS.iconst X158.here hx rfl (hb hby at_166) ?_
          show Steps p.tables e below (T158.setTop (mkF m 167 #[.val (.int p1), .val (.long p2), .second, .val (.int p3), .val (.int p4), .val (.int (1 : Int32)), .val (.ref b120_0), .val (.ref w_BIGINT), .val (.int (1 : Int32)), .val (.ref b141), .val (.ref b151), .val (.ref b153), .val (.int (0 : Int32))] [(.int (0 : Int32)), (.int (0 : Int32))])) _
          refine XS.icmpNo X158.here hx rfl (hb hby at_167) rfl (teq (rfl : (0 : Int32) = (0 : Int32))).2 ?_
          show Steps p.tables e below (T158.setTop (mkF m 170 #[.val (.int p1), .val (.long p2), .second, .val (.int p3), .val (.int p4), .val (.int (1 : Int32)), .val (.ref b120_0), .val (.ref w_BIGINT), .val (.int (1 : Int32)), .val (.ref b141), .val (.ref b151), .val (.ref b153), .val (.int (0 : Int32))] [])) _
          refine XS.iconst X158.here hx rfl (hb hby at_170) ?_
          refine XS.goto X158.here hx rfl (pc0 := 171) (pc' := 175) rfl (hb hby at_171) (by decide) (by decide) ?_
          show Steps p.tables e below (T158.setTop (mkF m 175 #[.val (.int p1), .val (.long p2), .second, .val (.int p3), .val (.int p4), .val (.int (1 : Int32)), .val (.ref b120_0), .val (.ref w_BIGINT), .val (.int (1 : Int32)), .val (.ref b141), .val (.ref b151), .val (.ref b153), .val (.int (0 : Int32))] [(.int (1 : Int32))])) _
          exact retN X158 hx (t := .boolean) Bd.returns (by simp) (hb hby at_175) hr
      · obtain ⟨cx159, bx159⟩ := id pr8
        obtain ⟨wc1, at159, Ea159, Fa159⟩ := own_box bx159 (j := ((p2.toInt32) + (128 : Int32))) (own_inboxL hf79 hf119).1 (own_inboxL hf79 hf119).2
        simp only [own_addsub] at Fa159
        obtain ⟨_, _, ⟨T160, L160, k160, n160⟩, -, X160, ⟨Lc160, hQ160, l160, y160, z160⟩, st160⟩ := Jvm.LawKit.callS X0 hx (y := (⟨"java/lang/Long", "valueOf", "(J)Ljava/lang/Long;"⟩ : MethodName)) hown (mvT hZ (wd104 hw)) (mvT hZ (wd105 hw)) (mvT hZ (wd106 hw)) (mvT hZ (wd107 hw)) (by decide) (backOf (W := 0) (rm14_2 l Z a0 hw [] p2 w_cache wc1 h0 n0 OL0 hf79 hf119 pr9 at159) hZ (wd107 hw) (wd106 hw) (by decide) (by decide)) (g := (mkF m 44 #[.val (.int p1), .val (.long p2), .second, .val (.int p3), .val (.int p4), .val (.int (1 : Int32)), .unset, .unset, .unset, .unset, .unset, .unset, .unset] [(.long p2)])) rfl (by rw [hml]; rfl) (argsL := [(.long p2)]) (rest := []) (lenOf pd_6 rfl) rfl (by show 2 * 0 + _ ≤ _; exact Nat.le_of_eq rfl) (hb hby at_44) (fun _ _ => ⟨rfl, e0, (by decide : 0 + 0 ≤ _), (by decide : 0 + 0 ≤ _)⟩)
        dsimp only [Pt.U, Pt.locs, Pt.cells, Pt.slots] at X160 l160 y160 z160 st160 hQ160
        subst l160 y160 z160
        obtain ⟨rfl, Nq160, ec160⟩ := hQ160
        have N160 := Fr.app N0 Nq160
        obtain ⟨T161, X161, e161, st161⟩ := getS2 X160 hx hZ hown (host := "") (Or.inl (wd124 hw)) Via.refl ec160 (pr7.ext OL0.2) (g := (mkF m 49 #[.val (.int p1), .val (.long p2), .second, .val (.int p3), .val (.int p4), .val (.int (1 : Int32)), .val (.ref wc1), .unset, .unset, .unset, .unset, .unset, .unset] [])) rfl (hb hby at_49)
        have pre162 : ∀ t, Steps p.tables e below (T161.setTop (mkF m 77 #[.val (.int p1), .val (.long p2), .second, .val (.int p3), .val (.int p4), .val (.int (1 : Int32)), .val (.ref wc1), .val (.ref w_BIGINT), .unset, .unset, .unset, .unset, .unset] [(.int y3)])) t → Steps p.tables e below (s₁.setTop (entryFrame m #[(.int p1), (.long p2), (.int p3), (.int p4)] maxLocals)) t := by
          intro t kt
          refine pre79 _ ?_
          show Steps p.tables e below (s₁.setTop (mkF m 44 #[.val (.int p1), .val (.long p2), .second, .val (.int p3), .val (.int p4), .val (.int (1 : Int32)), .unset, .unset, .unset, .unset, .unset, .unset, .unset] [(.long p2)])) _
          refine st160 _ ?_
          show Steps p.tables e below (T160.setTop (mkF m 47 #[.val (.int p1), .val (.long p2), .second, .val (.int p3), .val (.int p4), .val (.int (1 : Int32)), .unset, .unset, .unset, .unset, .unset, .unset, .unset] [(.ref wc1)])) _
          refine XS.astore X160.here hx rfl (hb hby at_47) rfl rfl (l' := #[.val (.int p1), .val (.long p2), .second, .val (.int p3), .val (.int p4), .val (.int (1 : Int32)), .val (.ref wc1), .unset, .unset, .unset, .unset, .unset, .unset]) rfl ?_
          show Steps p.tables e below (T160.setTop (mkF m 49 #[.val (.int p1), .val (.long p2), .second, .val (.int p3), .val (.int p4), .val (.int (1 : Int32)), .val (.ref wc1), .unset, .unset, .unset, .unset, .unset, .unset] [])) _
          refine st161 _ ?_
          show Steps p.tables e below (T161.setTop (mkF m 52 #[.val (.int p1), .val (.long p2), .second, .val (.int p3), .val (.int p4), .val (.int (1 : Int32)), .val (.ref wc1), .unset, .unset, .unset, .unset, .unset, .unset] [(.ref w_BIGINT)])) _
          refine XS.astore X161.here hx rfl (hb hby at_52) rfl rfl (l' := #[.val (.int p1), .val (.long p2), .second, .val (.int p3), .val (.int p4), .val (.int (1 : Int32)), .val (.ref wc1), .val (.ref w_BIGINT), .unset, .unset, .unset, .unset, .unset]) rfl ?_
          refine XS.goto X161.here hx rfl (pc0 := 54) (pc' := 73) rfl (hb hby at_54) (by decide) (by decide) ?_
          refine XS.iload X161.here hx rfl (hb hby at_73) rfl ?_
          refine XS.iconst X161.here hx rfl (hb hby at_75) ?_
          show Steps p.tables e below (T161.setTop (mkF m 76 #[.val (.int p1), .val (.long p2), .second, .val (.int p3), .val (.int p4), .val (.int (1 : Int32)), .val (.ref wc1), .val (.ref w_BIGINT), .unset, .unset, .unset, .unset, .unset] [(.int (1 : Int32)), (.int p4)])) _
          refine XS.iand X161.here hx rfl (hb hby at_76) rfl ?_
          show Steps p.tables e below (T161.setTop (mkF m 77 #[.val (.int p1), .val (.long p2), .second, .val (.int p3), .val (.int p4), .val (.int (1 : Int32)), .val (.ref wc1), .val (.ref w_BIGINT), .unset, .unset, .unset, .unset, .unset] [(.int (p4 &&& (1 : Int32)))])) _
          rw [pr4]
          exact kt
        by_cases hf162 : y3 = (0 : Int32)
        · obtain ⟨T163, h163, X163, e163, E163, A163, D163, -, st163⟩ := newO X161 hx hZ hown (wd4 hw) (wd5 hw) (wd6 hw) e161 (g := (mkF m 87 #[.val (.int p1), .val (.long p2), .second, .val (.int p3), .val (.int p4), .val (.int (1 : Int32)), .val (.ref wc1), .val (.ref w_BIGINT), .val (.int (0 : Int32)), .unset, .unset, .unset, .unset] [])) rfl (hb hby at_87) (by decide) (by decide)
          obtain ⟨b163, g163⟩ : ∃ z, z = h0.size := ⟨_, rfl⟩
          rw [← g163] at A163 D163 st163
          have g_b163 : n0 ≤ b163 := (Nat.le_trans (Nat.le_trans (Nat.le_of_eq OL0.1.symm) OL0.2.1) (Nat.le_of_eq g163.symm))
          have sz_b163 : h0.size ≤ b163 := (Nat.le_trans (Keep.refl h0 []).1 (Nat.le_of_eq g163.symm))
          have KK163 : Keep h0 h163 [] := (Keep.refl h0 []).ext E163
          have OL163 := OL0.ext E163
          have F_name_b163 : Fld Z h163 b163 "com/example/rowforge/rowforge/Column" "name" "Ljava/lang/String;" .null := D163 (Or.inr (wd27 hw)) (ty := (.object "java/lang/String")) (by decide)
          have F_position_b163 : Fld Z h163 b163 "com/example/rowforge/rowforge/Column" "position" "I" (.int (0 : Int32)) := D163 (Or.inr (wd29 hw)) (ty := .int) (by decide)
          have F_type_b163 : Fld Z h163 b163 "com/example/rowforge/rowforge/Column" "type" "Lcom/example/rowforge/rowforge/SqlType;" .null := D163 (Or.inr (wd31 hw)) (ty := (.object "com/example/rowforge/rowforge/SqlType")) (by decide)
          have F_length_b163 : Fld Z h163 b163 "com/example/rowforge/rowforge/Column" "length" "I" (.int (0 : Int32)) := D163 (Or.inr (wd33 hw)) (ty := .int) (by decide)
          have F_scale_b163 : Fld Z h163 b163 "com/example/rowforge/rowforge/Column" "scale" "I" (.int (0 : Int32)) := D163 (Or.inr (wd35 hw)) (ty := .int) (by decide)
          have F_nullable_b163 : Fld Z h163 b163 "com/example/rowforge/rowforge/Column" "nullable" "Z" (.int (0 : Int32)) := D163 (Or.inr (wd37 hw)) (ty := .boolean) (by decide)
          obtain ⟨b164, T164, h164, k164, X164, e164, E164, hS164, hk164, hZ164, hown164, st164⟩ := ldcS (s := s) (vm0 := s.vm) X163 hx hZ hown (wd7 hw) (own_wS hw) e163 ((State.WarmedH.refl s).since 0) (Nat.le_trans (Nat.zero_le _) E163.1) (g := (mkF m 91 #[.val (.int p1), .val (.long p2), .second, .val (.int p3), .val (.int p4), .val (.int (1 : Int32)), .val (.ref wc1), .val (.ref w_BIGINT), .val (.int (0 : Int32)), .unset, .unset, .unset, .unset] [(.ref b163), (.ref b163)])) rfl (hb hby at_91) (n := 32) (by decide) (by decide) (by decide) (by decide)
          have KK164 : Keep h0 h164 [] := KK163.ext E164
          have OL164 := OL163.ext E164
          have fc166 := (A163.ext E164)
          have fc167 := (F_name_b163.ext E164)
          have fc168 := (F_position_b163.ext E164)
          have fc169 := (F_type_b163.ext E164)
          have fc170 := (F_length_b163.ext E164)
          have fc171 := (F_scale_b163.ext E164)
          have fc172 := (F_nullable_b163.ext E164)
          obtain ⟨_, _, ⟨T165, L165, k165, n165⟩, -, X165, ⟨Lc165, hQ165, l165, y165, z165⟩, st165⟩ := X164.specialBack hx (y := (⟨"com/example/rowforge/rowforge/Column", "<init>", "(Ljava/lang/String;ILcom/example/rowforge/rowforge/SqlType;IIZ)V"⟩ : MethodName)) rfl hown164 (mvT hZ164 (wd15 hw)) (mvT hZ164 (wd16 hw)) (mvT hZ164 (wd17 hw)) (by decide) (backOf (W := 1) (rm1_0 l Z a0 hw [] b163 b164 w_BIGINT h164 n0 OL164 fc166 fc167 g_b163 fc168 fc169 fc170 fc171 fc172) hZ164 (wd17 hw) (wd6 hw) (by decide) (by decide)) (g := (mkF m 101 #[.val (.int p1), .val (.long p2), .second, .val (.int p3), .val (.int p4), .val (.int (1 : Int32)), .val (.ref wc1), .val (.ref w_BIGINT), .val (.int (0 : Int32)), .unset, .unset, .unset, .unset] [(.int (0 : Int32)), (.int (0 : Int32)), (.int (2147483647 : Int32)), (.ref w_BIGINT), (.int (-1 : Int32)), (.ref b164), (.ref b163), (.ref b163)])) rfl (by rw [hml]; rfl) (Steps.refl _) (a := b163) (argsL := [(.ref b164), (.int (-1 : Int32)), (.ref w_BIGINT), (.int (2147483647 : Int32)), (.int (0 : Int32)), (.int (0 : Int32))]) (rest := [(.ref b163)]) (lenOf pd_1 rfl) rfl (by show 2 * 0 + _ ≤ _; exact Nat.le_of_eq rfl) (hb hby at_101) (fun _ _ => ⟨rfl, e164, (by decide : 3 + 0 ≤ _), (by decide : 42 + 0 ≤ _)⟩)
          dsimp only [Pt.U, Pt.locs, Pt.cells, Pt.slots] at X165 l165 y165 z165 st165 hQ165
          subst l165 y165 z165
          obtain ⟨rfl, Nq165, K165, u165_0, u165_1, u165_2, u165_3, u165_4, u165_5⟩ := hQ165
          have KK165 : Keep h0 T165.heap [] := KK164.trans K165 (allS (Or.inr sz_b163) all0)
          have OL165 := OL164.keep K165 (allS g_b163 all0)
          have N165 := Fr.app N160 Nq165
          obtain ⟨T173, h173, X173, e173, E173, A173, D173, -, st173⟩ := newO X165 hx hZ164 hown164 (wd38 hw) (wd39 hw) (wd40 hw) rfl (g := (mkF m 106 #[.val (.int p1), .val (.long p2), .second, .val (.int p3), .val (.int p4), .val (.int (1 : Int32)), .val (.ref wc1), .val (.ref w_BIGINT), .val (.int (0 : Int32)), .val (.ref b163), .unset, .unset, .unset] [])) rfl (hb hby at_106) (by decide) (by decide)
          obtain ⟨b173, g173⟩ : ∃ z, z = T165.heap.size := ⟨_, rfl⟩
          rw [← g173] at A173 D173 st173
          have g_b173 : n0 ≤ b173 := (Nat.le_trans (Nat.le_trans (Nat.le_of_eq OL165.1.symm) OL165.2.1) (Nat.le_of_eq g173.symm))
          have sz_b173 : h0.size ≤ b173 := (Nat.le_trans KK165.1 (Nat.le_of_eq g173.symm))
          have KK173 : Keep h0 h173 [] := KK165.ext E173
          have OL173 := OL165.ext E173
          have F_value_b173 : Fld Z h173 b173 "com/example/rowforge/rowforge/Field$Constant" "value" "Ljava/lang/Object;" .null := D173 (Or.inr (wd46 hw)) (ty := (.object "java/lang/Object")) (by decide)
          have F_column_b173 : Fld Z h173 b173 "com/example/rowforge/rowforge/Field$Constant" "column" "Lcom/example/rowforge/rowforge/Column;" .null := D173 (Or.inr (wd48 hw)) (ty := (.object "com/example/rowforge/rowforge/Column")) (by decide)
          obtain ⟨_, _, ⟨T174, L174, k174, n174⟩, -, X174, ⟨Lc174, hQ174, l174, y174, z174⟩, st174⟩ := X173.specialBack hx (y := (⟨"com/example/rowforge/rowforge/Field$Constant", "<init>", "(Ljava/lang/Object;Lcom/example/rowforge/rowforge/Column;)V"⟩ : MethodName)) rfl hown164 (mvT hZ164 (wd41 hw)) (mvT hZ164 (wd42 hw)) (mvT hZ164 (wd43 hw)) (by decide) (backOf (W := 1) (rm4_2 l Z a0 hw [] b173 wc1 b163 h173 n0 OL173 A173 F_value_b173 g_b173 F_column_b173) hZ164 (wd43 hw) (wd40 hw) (by decide) (by decide)) (g := (mkF m 114 #[.val (.int p1), .val (.long p2), .second, .val (.int p3), .val (.int p4), .val (.int (1 : Int32)), .val (.ref wc1), .val (.ref w_BIGINT), .val (.int (0 : Int32)), .val (.ref b163), .unset, .unset, .unset] [(.ref b163), (.ref wc1), (.ref b173), (.ref b173)])) rfl (by rw [hml]; rfl) (Steps.refl _) (a := b173) (argsL := [(.ref wc1), (.ref b163)]) (rest := [(.ref b173)]) (lenOf pd_2 rfl) rfl (by show 2 * 0 + _ ≤ _; exact Nat.le_of_eq rfl) (hb hby at_114) (fun _ _ => ⟨rfl, e173, (by decide : 4 + 0 ≤ _), (by decide : 44 + 0 ≤ _)⟩)
          dsimp only [Pt.U, Pt.locs, Pt.cells, Pt.slots] at X174 l174 y174 z174 st174 hQ174
          subst l174 y174 z174
          obtain ⟨rfl, Nq174, K174, u174_0, u174_1⟩ := hQ174
          have KK174 : Keep h0 T174.heap [] := KK173.trans K174 (allS (Or.inr sz_b173) all0)
          have OL174 := OL173.keep K174 (allS g_b173 all0)
          have N174 := Fr.app N165 Nq174
          obtain ⟨T175, h175, X175, e175, E175, A175, D175, -, st175⟩ := newO X174 hx hZ164 hown164 (wd49 hw) (wd50 hw) (wd51 hw) rfl (g := (mkF m 119 #[.val (.int p1), .val (.long p2), .second, .val (.int p3), .val (.int p4), .val (.int (1 : Int32)), .val (.ref wc1), .val (.ref w_BIGINT), .val (.int (0 : Int32)), .val (.ref b163), .val (.ref b173), .unset, .unset] [])) rfl (hb hby at_119) (by decide) (by decide)
          obtain ⟨b175, g175⟩ : ∃ z, z = T174.heap.size := ⟨_, rfl⟩
          rw [← g175] at A175 D175 st175
          have g_b175 : n0 ≤ b175 := (Nat.le_trans (Nat.le_trans (Nat.le_of_eq OL174.1.symm) OL174.2.1) (Nat.le_of_eq g175.symm))
          have sz_b175 : h0.size ≤ b175 := (Nat.le_trans KK174.1 (Nat.le_of_eq g175.symm))
          have KK175 : Keep h0 h175 [] := KK174.ext E175
          have OL175 := OL174.ext E175
          have F_modCount_b175 : Fld Z h175 b175 "java/util/AbstractList" "modCount" "I" (.int (0 : Int32)) := D175 (Or.inl (wd69 hw)) (ty := .int) (by decide)
          have F_elementData_b175 : Fld Z h175 b175 "java/util/ArrayList" "elementData" "[Ljava/lang/Object;" .null := D175 (Or.inl (wd72 hw)) (ty := (.array (.object "java/lang/Object"))) (by decide)
          obtain ⟨_, _, ⟨T176, L176, k176, n176⟩, -, X176, ⟨Lc176, hQ176, l176, y176, z176⟩, st176⟩ := X175.specialBack hx (y := (⟨"java/util/ArrayList", "<init>", "()V"⟩ : MethodName)) rfl hown164 (mvT hZ164 (wd52 hw)) (mvT hZ164 (wd53 hw)) (mvT hZ164 (wd54 hw)) (by decide) (backOf (W := 1) (rm5_0 l Z a0 hw [] b175 w_DEFAULTCAPACITY_EMPTY_ELEMENTDATA h175 n0 OL175 A175 F_modCount_b175 g_b175 F_elementData_b175 pr5) hZ164 (wd54 hw) (wd51 hw) (by decide) (by decide)) (g := (mkF m 123 #[.val (.int p1), .val (.long p2), .second, .val (.int p3), .val (.int p4), .val (.int (1 : Int32)), .val (.ref wc1), .val (.ref w_BIGINT), .val (.int (0 : Int32)), .val (.ref b163), .val (.ref b173), .unset, .unset] [(.ref b175), (.ref b175)])) rfl (by rw [hml]; rfl) (Steps.refl _) (a := b175) (argsL := []) (rest := [(.ref b175)]) (lenOf pd_0 rfl) rfl (by show 2 * 0 + _ ≤ _; exact Nat.le_of_eq rfl) (hb hby at_123) (fun _ _ => ⟨rfl, e175, (by decide : 5 + 0 ≤ _), (by decide : 47 + 0 ≤ _)⟩)
          dsimp only [Pt.U, Pt.locs, Pt.cells, Pt.slots] at X176 l176 y176 z176 st176 hQ176
          subst l176 y176 z176
          obtain ⟨rfl, Nq176, K176, u176_0, u176_1⟩ := hQ176
          have KK176 : Keep h0 T176.heap [] := KK175.trans K176 (allS (Or.inr sz_b175) all0)
          have OL176 := OL175.keep K176 (allS g_b175 all0)
          have N176 := Fr.app N174 Nq176
          have fc178 := ((u174_0.ext E175).keep K176 (ninS (Nat.ne_of_lt (Nat.lt_of_lt_of_le u174_1.lt (Nat.le_of_eq g175.symm))) nin0))
          have fc179 := (((A173.keep K174).ext E175).keep K176)
          obtain ⟨cq177, kq177, q177a, q177b, q177c⟩ := isOf hZ164 rfl fc179
          obtain ⟨_, _, ⟨T177, L177, k177, n177⟩, -, X177, ⟨Lc177, hQ177, l177, y177, z177⟩, st177⟩ := X176.virtualBack hx (y := (⟨"com/example/rowforge/rowforge/Field$Constant", "nullable", "()Z"⟩ : MethodName)) (z := (⟨"com/example/rowforge/rowforge/Field$Constant", "nullable", "()Z"⟩ : MethodName)) hown164 (mvT hZ164 (wd73 hw)) (mvT hZ164 (wd74 hw)) (notFace_of_selects (args := #[]) (mvT hZ164 (wd76 hw))) (mvT hZ164 (wd76 hw)) (mvT hZ164 (wd75 hw)) (by decide) (backOf (W := 0) (rm8_2 l Z a0 hw [] b173 wc1 T176.heap n0 OL176 fc178) hZ164 (wd77 hw) (wd40 hw) (by decide) (by decide)) q177a q177c (g := (mkF m 130 #[.val (.int p1), .val (.long p2), .second, .val (.int p3), .val (.int p4), .val (.int (1 : Int32)), .val (.ref wc1), .val (.ref w_BIGINT), .val (.int (0 : Int32)), .val (.ref b163), .val (.ref b173), .val (.ref b175), .unset] [(.ref b173)])) rfl (by rw [hml]; rfl) (Steps.refl _) (argsL := []) (rest := []) (lenOf pd_3 rfl) rfl (by show 2 * 0 + _ ≤ _; exact Nat.le_of_eq rfl) (hb hby at_130) (fun _ _ => ⟨rfl, rfl, (by decide : 5 + 0 ≤ _), (by decide : 47 + 0 ≤ _)⟩)
          dsimp only [Pt.U, Pt.locs, Pt.cells, Pt.slots] at X177 l177 y177 z177 st177 hQ177
          subst l177 y177 z177
          obtain ⟨rfl, Nq177, ec177⟩ := hQ177
          have N177 := Fr.app N176 Nq177
          obtain ⟨cq180, kq180, q180a, q180b, q180c⟩ := isOf hZ164 ec177 fc179
          obtain ⟨_, _, ⟨T180, L180, k180, n180⟩, -, X180, ⟨Lc180, hQ180, l180, y180, z180⟩, st180⟩ := X177.virtualBack hx (y := (⟨"com/example/rowforge/rowforge/Field$Constant", "value", "(Ljava/util/List;)Ljava/lang/Object;"⟩ : MethodName)) (z := (⟨"com/example/rowforge/rowforge/Field$Constant", "value", "(Ljava/util/List;)Ljava/lang/Object;"⟩ : MethodName)) hown164 (mvT hZ164 (wd78 hw)) (mvT hZ164 (wd79 hw)) (notFace_of_selects (args := #[]) (mvT hZ164 (wd81 hw))) (mvT hZ164 (wd81 hw)) (mvT hZ164 (wd80 hw)) (by decide) (backOf (W := 1) (rm9_2 l Z a0 hw [] b173 b175 wc1 T176.heap n0 OL176 fc178) hZ164 (wd82 hw) (wd40 hw) (by decide) (by decide)) q180a q180c (g := (mkF m 156 #[.val (.int p1), .val (.long p2), .second, .val (.int p3), .val (.int p4), .val (.int (1 : Int32)), .val (.ref wc1), .val (.ref w_BIGINT), .val (.int (0 : Int32)), .val (.ref b163), .val (.ref b173), .val (.ref b175), .val (.int (0 : Int32))] [(.ref b175), (.ref b173), (.int (0 : Int32))])) rfl (by rw [hml]; rfl) (Steps.refl _) (argsL := [(.ref b175)]) (rest := [(.int (0 : Int32))]) (lenOf pd_4 rfl) rfl (by show 2 * 0 + _ ≤ _; exact Nat.le_of_eq rfl) (hb hby at_156) (fun _ _ => ⟨rfl, ec177, (by decide : 5 + 0 ≤ _), (by decide : 47 + 0 ≤ _)⟩)
          dsimp only [Pt.U, Pt.locs, Pt.cells, Pt.slots] at X180 l180 y180 z180 st180 hQ180
          subst l180 y180 z180
          obtain ⟨rfl, Nq180, ec180⟩ := hQ180
          have N180 := Fr.app N177 Nq180
          obtain ⟨fs, hr, hrun, hended, hRW⟩ := X180.leaveW (s := s) hS164 (by rw [ec180]; exact (Nat.le_trans (Nat.le_trans (Nat.le_trans (Nat.le_trans (Nat.le_trans hk164 K165.1) E173.1) K174.1) E175.1) K176.1)) (v := some (.int (1 : Int32))) (fun h => by rw [Bd.returns] at h; cases h)
          refine ⟨_, _, pre162 _ ?_, hrun, hended, _, _, rfl, ⟨rfl, N180⟩, hRW.1, hRW.2.1, hRW.2.2.1, hRW.2.2.2.mono (by decide) (by decide)⟩
          show Steps p.tables e below (T161.setTop (mkF m 77 #[.val (.int p1), .val (.long p2), .second, .val (.int p3), .val (.int p4), .val (.int (1 : Int32)), .val (.ref wc1), .val (.ref w_BIGINT), .unset, .unset, .unset, .unset, .unset] [(.int y3)])) _
          refine XS.ifYes X161.here hx rfl (pc0 := 77) (pc' := 84) rfl (hb hby at_77) rfl ((if0 _ _).trans (teq hf162).1) (by decide) (by decide) ?_
          show Steps p.tables e below (T161.setTop (mkF m 84 #[.val (.int p1), .val (.long p2), .second, .val (.int p3), .val (.int p4), .val (.int (1 : Int32)), .val (.ref wc1), .val (.ref w_BIGINT), .unset, .unset, .unset, .unset, .unset] [])) _
          refine XS.iconst X161.here hx rfl (hb hby at_84) ?_
          refine XS.istore X161.here hx rfl (hb hby at_85) rfl (l' := #[.val (.int p1), .val (.long p2), .second, .val (.int p3), .val (.int p4), .val (.int (1 : Int32)), .val (.ref wc1), .val (.ref w_BIGINT), .val (.int (0 : Int32)), .unset, .unset, .unset, .unset]) rfl ?_
          show Steps p.tables e below (T161.setTop (mkF m 87 #[.val (.int p1), .val (.long p2), .second, .val (.int p3), .val (.int p4), .val (.int (1 : Int32)), .val (.ref wc1), .val (.ref w_BIGINT), .val (.int (0 : Int32)), .unset, .unset, .unset, .unset] [])) _
          refine st163 _ ?_
          show Steps p.tables e below (T163.setTop (mkF m 90 #[.val (.int p1), .val (.long p2), .second, .val (.int p3), .val (.int p4), .val (.int (1 : Int32)), .val (.ref wc1), .val (.ref w_BIGINT), .val (.int (0 : Int32)), .unset, .unset, .unset, .unset] [(.ref b163)])) _
          refine XS.dup X163.here hx rfl (hb hby at_90) rfl rfl ?_
          refine st164 _ ?_
          refine XS.iconst X164.here hx rfl (hb hby at_93) ?_
          refine XS.aload X164.here hx rfl (hb hby at_94) rfl rfl ?_
          show Steps p.tables e below (T164.setTop (mkF m 96 #[.val (.int p1), .val (.long p2), .second, .val (.int p3), .val (.int p4), .val (.int (1 : Int32)), .val (.ref wc1), .val (.ref w_BIGINT), .val (.int (0 : Int32)), .unset, .unset, .unset, .unset] [(.ref w_BIGINT), (.int (-1 : Int32)), (.ref b164), (.ref b163), (.ref b163)])) _
          refine X164.ldcInt hx hown164 (mvT hZ164 (wd0 hw)) (g := (mkF m 96 #[.val (.int p1), .val (.long p2), .second, .val (.int p3), .val (.int p4), .val (.int (1 : Int32)), .val (.ref wc1), .val (.ref w_BIGINT), .val (.int (0 : Int32)), .unset, .unset, .unset, .unset] [(.ref w_BIGINT), (.int (-1 : Int32)), (.ref b164), (.ref b163), (.ref b163)])) rfl (hb hby at_96) _ ?_
          refine XS.iconst X164.here hx rfl (hb hby at_98) ?_
          refine XS.iload X164.here hx rfl (hb hby at_99) rfl ?_
          show Steps p.tables e below (T164.setTop (mkF m 101 #[.val (.int p1), .val (.long p2), .second, .val (.int p3), .val (.int p4), .val (.int (1 : Int32)), .val (.ref wc1), .val (.ref w_BIGINT), .val (.int (0 : Int32)), .unset, .unset, .unset, .unset] [(.int (0 : Int32)), (.int (0 : Int32)), (.int (2147483647 : Int32)), (.ref w_BIGINT), (.int (-1 : Int32)), (.ref b164), (.ref b163), (.ref b163)])) _
          refine st165.trans ?_
          show Steps p.tables e below (T165.setTop (mkF m 104 #[.val (.int p1), .val (.long p2), .second, .val (.int p3), .val (.int p4), .val (.int (1 : Int32)), .val (.ref wc1), .val (.ref w_BIGINT), .val (.int (0 : Int32)), .unset, .unset, .unset, .unset] [(.ref b163)])) _
          refine XS.astore X165.here hx rfl (hb hby at_104) rfl rfl (l' := #[.val (.int p1), .val (.long p2), .second, .val (.int p3), .val (.int p4), .val (.int (1 : Int32)), .val (.ref wc1), .val (.ref w_BIGINT), .val (.int (0 : Int32)), .val (.ref b163), .unset, .unset, .unset]) rfl ?_
          show Steps p.tables e below (T165.setTop (mkF m 106 #[.val (.int p1), .val (.long p2), .second, .val (.int p3), .val (.int p4), .val (.int (1 : Int32)), .val (.ref wc1), .val (.ref w_BIGINT), .val (.int (0 : Int32)), .val (.ref b163), .unset, .unset, .unset] [])) _
          refine st173 _ ?_
          show Steps p.tables e below (T173.setTop (mkF m 109 #[.val (.int p1), .val (.long p2), .second, .val (.int p3), .val (.int p4), .val (.int (1 : Int32)), .val (.ref wc1), .val (.ref w_BIGINT), .val (.int (0 : Int32)), .val (.ref b163), .unset, .unset, .unset] [(.ref b173)])) _
          refine XS.dup X173.here hx rfl (hb hby at_109) rfl rfl ?_
          refine XS.aload X173.here hx rfl (hb hby at_110) rfl rfl ?_
          refine XS.aload X173.here hx rfl (hb hby at_112) rfl rfl ?_
          show Steps p.tables e below (T173.setTop (mkF m 114 #[.val (.int p1), .val (.long p2), .second, .val (.int p3), .val (.int p4), .val (.int (1 : Int32)), .val (.ref wc1), .val (.ref w_BIGINT), .val (.int (0 : Int32)), .val (.ref b163), .unset, .unset, .unset] [(.ref b163), (.ref wc1), (.ref b173), (.ref b173)])) _
          refine st174.trans ?_
          show Steps p.tables e below (T174.setTop (mkF m 117 #[.val (.int p1), .val (.long p2), .second, .val (.int p3), .val (.int p4), .val (.int (1 : Int32)), .val (.ref wc1), .val (.ref w_BIGINT), .val (.int (0 : Int32)), .val (.ref b163), .unset, .unset, .unset] [(.ref b173)])) _
          refine XS.astore X174.here hx rfl (hb hby at_117) rfl rfl (l' := #[.val (.int p1), .val (.long p2), .second, .val (.int p3), .val (.int p4), .val (.int (1 : Int32)), .val (.ref wc1), .val (.ref w_BIGINT), .val (.int (0 : Int32)), .val (.ref b163), .val (.ref b173), .unset, .unset]) rfl ?_
          show Steps p.tables e below (T174.setTop (mkF m 119 #[.val (.int p1), .val (.long p2), .second, .val (.int p3), .val (.int p4), .val (.int (1 : Int32)), .val (.ref wc1), .val (.ref w_BIGINT), .val (.int (0 : Int32)), .val (.ref b163), .val (.ref b173), .unset, .unset] [])) _
          refine st175 _ ?_
          show Steps p.tables e below (T175.setTop (mkF m 122 #[.val (.int p1), .val (.long p2), .second, .val (.int p3), .val (.int p4), .val (.int (1 : Int32)), .val (.ref wc1), .val (.ref w_BIGINT), .val (.int (0 : Int32)), .val (.ref b163), .val (.ref b173), .unset, .unset] [(.ref b175)])) _
          refine XS.dup X175.here hx rfl (hb hby at_122) rfl rfl ?_
          show Steps p.tables e below (T175.setTop (mkF m 123 #[.val (.int p1), .val (.long p2), .second, .val (.int p3), .val (.int p4), .val (.int (1 : Int32)), .val (.ref wc1), .val (.ref w_BIGINT), .val (.int (0 : Int32)), .val (.ref b163), .val (.ref b173), .unset, .unset] [(.ref b175), (.ref b175)])) _
          refine st176.trans ?_
          show Steps p.tables e below (T176.setTop (mkF m 126 #[.val (.int p1), .val (.long p2), .second, .val (.int p3), .val (.int p4), .val (.int (1 : Int32)), .val (.ref wc1), .val (.ref w_BIGINT), .val (.int (0 : Int32)), .val (.ref b163), .val (.ref b173), .unset, .unset] [(.ref b175)])) _
          refine XS.astore X176.here hx rfl (hb hby at_126) rfl rfl (l' := #[.val (.int p1), .val (.long p2), .second, .val (.int p3), .val (.int p4), .val (.int (1 : Int32)), .val (.ref wc1), .val (.ref w_BIGINT), .val (.int (0 : Int32)), .val (.ref b163), .val (.ref b173), .val (.ref b175), .unset]) rfl ?_
          refine XS.aload X176.here hx rfl (hb hby at_128) rfl rfl ?_
          show Steps p.tables e below (T176.setTop (mkF m 130 #[.val (.int p1), .val (.long p2), .second, .val (.int p3), .val (.int p4), .val (.int (1 : Int32)), .val (.ref wc1), .val (.ref w_BIGINT), .val (.int (0 : Int32)), .val (.ref b163), .val (.ref b173), .val (.ref b175), .unset] [(.ref b173)])) _
          refine st177.trans ?_
          show Steps p.tables e below (T177.setTop (mkF m 133 #[.val (.int p1), .val (.long p2), .second, .val (.int p3), .val (.int p4), .val (.int (1 : Int32)), .val (.ref wc1), .val (.ref w_BIGINT), .val (.int (0 : Int32)), .val (.ref b163), .val (.ref b173), .val (.ref b175), .unset] [(.int (0 : Int32))])) _
          refine XS.istore X177.here hx rfl (hb hby at_133) rfl (l' := #[.val (.int p1), .val (.long p2), .second, .val (.int p3), .val (.int p4), .val (.int (1 : Int32)), .val (.ref wc1), .val (.ref w_BIGINT), .val (.int (0 : Int32)), .val (.ref b163), .val (.ref b173), .val (.ref b175), .val (.int (0 : Int32))]) rfl ?_
          refine XS.iload X177.here hx rfl (hb hby at_135) rfl ?_
          refine XS.iload X177.here hx rfl (hb hby at_137) rfl ?_
          show Steps p.tables e below (T177.setTop (mkF m 139 #[.val (.int p1), .val (.long p2), .second, .val (.int p3), .val (.int p4), .val (.int (1 : Int32)), .val (.ref wc1), .val (.ref w_BIGINT), .val (.int (0 : Int32)), .val (.ref b163), .val (.ref b173), .val (.ref b175), .val (.int (0 : Int32))] [(.int (1 : Int32)), (.int (0 : Int32))])) _
          refine XS.ifYes X177.here hx rfl (pc0 := 139) (pc' := 146) rfl (hb hby at_139) rfl ((if0 _ _).trans (feq (by decide : ¬ ((1 : Int32) = (0 : Int32)))).2) (by decide) (by decide) ?_
          show Steps p.tables e below (T177.setTop (mkF m 146 #[.val (.int p1), .val (.long p2), .second, .val (.int p3), .val (.int p4), .val (.int (1 : Int32)), .val (.ref wc1), .val (.ref w_BIGINT), .val (.int (0 : Int32)), .val (.ref b163), .val (.ref b173), .val (.ref b175), .val (.int (0 : Int32))] [(.int (0 : Int32))])) _
          refine XS.iconst X177.here hx rfl (hb hby at_146) ?_
          show Steps p.tables e below (T177.setTop (mkF m 147 #[.val (.int p1), .val (.long p2), .second, .val (.int p3), .val (.int p4), .val (.int (1 : Int32)), .val (.ref wc1), .val (.ref w_BIGINT), .val (.int (0 : Int32)), .val (.ref b163), .val (.ref b173), .val (.ref b175), .val (.int (0 : Int32))] [(.int (0 : Int32)), (.int (0 : Int32))])) _
          refine XS.icmpNo X177.here hx rfl (hb hby at_147) rfl (teq (rfl : (0 : Int32) = (0 : Int32))).2 ?_
          show Steps p.tables e below (T177.setTop (mkF m 150 #[.val (.int p1), .val (.long p2), .second, .val (.int p3), .val (.int p4), .val (.int (1 : Int32)), .val (.ref wc1), .val (.ref w_BIGINT), .val (.int (0 : Int32)), .val (.ref b163), .val (.ref b173), .val (.ref b175), .val (.int (0 : Int32))] [])) _
          refine XS.iload X177.here hx rfl (hb hby at_150) rfl ?_
          refine XS.aload X177.here hx rfl (hb hby at_152) rfl rfl ?_
          refine XS.aload X177.here hx rfl (hb hby at_154) rfl rfl ?_
          show Steps p.tables e below (T177.setTop (mkF m 156 #[.val (.int p1), .val (.long p2), .second, .val (.int p3), .val (.int p4), .val (.int (1 : Int32)), .val (.ref wc1), .val (.ref w_BIGINT), .val (.int (0 : Int32)), .val (.ref b163), .val (.ref b173), .val (.ref b175), .val (.int (0 : Int32))] [(.ref b175), (.ref b173), (.int (0 : Int32))])) _
          refine st180.trans ?_
          show Steps p.tables e below (T180.setTop (mkF m 159 #[.val (.int p1), .val (.long p2), .second, .val (.int p3), .val (.int p4), .val (.int (1 : Int32)), .val (.ref wc1), .val (.ref w_BIGINT), .val (.int (0 : Int32)), .val (.ref b163), .val (.ref b173), .val (.ref b175), .val (.int (0 : Int32))] [(.ref wc1), (.int (0 : Int32))])) _
          refine XS.ifnonnullYes X180.here hx rfl (pc0 := 159) (pc' := 166) rfl (hb hby at_159) rfl (by decide) (by decide) ?_
          show Steps p.tables e below (T180.setTop (mkF m 166 #[.val (.int p1), .val (.long p2), .second, .val (.int p3), .val (.int p4), .val (.int (1 : Int32)), .val (.ref wc1), .val (.ref w_BIGINT), .val (.int (0 : Int32)), .val (.ref b163), .val (.ref b173), .val (.ref b175), .val (.int (0 : Int32))] [(.int (0 : Int32))])) _
          refine XS.iconst X180.here hx rfl (hb hby at_166) ?_
          show Steps p.tables e below (T180.setTop (mkF m 167 #[.val (.int p1), .val (.long p2), .second, .val (.int p3), .val (.int p4), .val (.int (1 : Int32)), .val (.ref wc1), .val (.ref w_BIGINT), .val (.int (0 : Int32)), .val (.ref b163), .val (.ref b173), .val (.ref b175), .val (.int (0 : Int32))] [(.int (0 : Int32)), (.int (0 : Int32))])) _
          refine XS.icmpNo X180.here hx rfl (hb hby at_167) rfl (teq (rfl : (0 : Int32) = (0 : Int32))).2 ?_
          show Steps p.tables e below (T180.setTop (mkF m 170 #[.val (.int p1), .val (.long p2), .second, .val (.int p3), .val (.int p4), .val (.int (1 : Int32)), .val (.ref wc1), .val (.ref w_BIGINT), .val (.int (0 : Int32)), .val (.ref b163), .val (.ref b173), .val (.ref b175), .val (.int (0 : Int32))] [])) _
          refine XS.iconst X180.here hx rfl (hb hby at_170) ?_
          refine XS.goto X180.here hx rfl (pc0 := 171) (pc' := 175) rfl (hb hby at_171) (by decide) (by decide) ?_
          show Steps p.tables e below (T180.setTop (mkF m 175 #[.val (.int p1), .val (.long p2), .second, .val (.int p3), .val (.int p4), .val (.int (1 : Int32)), .val (.ref wc1), .val (.ref w_BIGINT), .val (.int (0 : Int32)), .val (.ref b163), .val (.ref b173), .val (.ref b175), .val (.int (0 : Int32))] [(.int (1 : Int32))])) _
          exact retN X180 hx (t := .boolean) Bd.returns (by simp) (hb hby at_175) hr
        · obtain ⟨T181, h181, X181, e181, E181, A181, D181, -, st181⟩ := newO X161 hx hZ hown (wd4 hw) (wd5 hw) (wd6 hw) e161 (g := (mkF m 87 #[.val (.int p1), .val (.long p2), .second, .val (.int p3), .val (.int p4), .val (.int (1 : Int32)), .val (.ref wc1), .val (.ref w_BIGINT), .val (.int (1 : Int32)), .unset, .unset, .unset, .unset] [])) rfl (hb hby at_87) (by decide) (by decide)
          obtain ⟨b181, g181⟩ : ∃ z, z = h0.size := ⟨_, rfl⟩
          rw [← g181] at A181 D181 st181
          have g_b181 : n0 ≤ b181 := (Nat.le_trans (Nat.le_trans (Nat.le_of_eq OL0.1.symm) OL0.2.1) (Nat.le_of_eq g181.symm))
          have sz_b181 : h0.size ≤ b181 := (Nat.le_trans (Keep.refl h0 []).1 (Nat.le_of_eq g181.symm))
          have KK181 : Keep h0 h181 [] := (Keep.refl h0 []).ext E181
          have OL181 := OL0.ext E181
          have F_name_b181 : Fld Z h181 b181 "com/example/rowforge/rowforge/Column" "name" "Ljava/lang/String;" .null := D181 (Or.inr (wd27 hw)) (ty := (.object "java/lang/String")) (by decide)
          have F_position_b181 : Fld Z h181 b181 "com/example/rowforge/rowforge/Column" "position" "I" (.int (0 : Int32)) := D181 (Or.inr (wd29 hw)) (ty := .int) (by decide)
          have F_type_b181 : Fld Z h181 b181 "com/example/rowforge/rowforge/Column" "type" "Lcom/example/rowforge/rowforge/SqlType;" .null := D181 (Or.inr (wd31 hw)) (ty := (.object "com/example/rowforge/rowforge/SqlType")) (by decide)
          have F_length_b181 : Fld Z h181 b181 "com/example/rowforge/rowforge/Column" "length" "I" (.int (0 : Int32)) := D181 (Or.inr (wd33 hw)) (ty := .int) (by decide)
          have F_scale_b181 : Fld Z h181 b181 "com/example/rowforge/rowforge/Column" "scale" "I" (.int (0 : Int32)) := D181 (Or.inr (wd35 hw)) (ty := .int) (by decide)
          have F_nullable_b181 : Fld Z h181 b181 "com/example/rowforge/rowforge/Column" "nullable" "Z" (.int (0 : Int32)) := D181 (Or.inr (wd37 hw)) (ty := .boolean) (by decide)
          obtain ⟨b182, T182, h182, k182, X182, e182, E182, hS182, hk182, hZ182, hown182, st182⟩ := ldcS (s := s) (vm0 := s.vm) X181 hx hZ hown (wd7 hw) (own_wS hw) e181 ((State.WarmedH.refl s).since 0) (Nat.le_trans (Nat.zero_le _) E181.1) (g := (mkF m 91 #[.val (.int p1), .val (.long p2), .second, .val (.int p3), .val (.int p4), .val (.int (1 : Int32)), .val (.ref wc1), .val (.ref w_BIGINT), .val (.int (1 : Int32)), .unset, .unset, .unset, .unset] [(.ref b181), (.ref b181)])) rfl (hb hby at_91) (n := 32) (by decide) (by decide) (by decide) (by decide)
          have KK182 : Keep h0 h182 [] := KK181.ext E182
          have OL182 := OL181.ext E182
          have fc184 := (A181.ext E182)
          have fc185 := (F_name_b181.ext E182)
          have fc186 := (F_position_b181.ext E182)
          have fc187 := (F_type_b181.ext E182)
          have fc188 := (F_length_b181.ext E182)
          have fc189 := (F_scale_b181.ext E182)
          have fc190 := (F_nullable_b181.ext E182)
          obtain ⟨_, _, ⟨T183, L183, k183, n183⟩, -, X183, ⟨Lc183, hQ183, l183, y183, z183⟩, st183⟩ := X182.specialBack hx (y := (⟨"com/example/rowforge/rowforge/Column", "<init>", "(Ljava/lang/String;ILcom/example/rowforge/rowforge/SqlType;IIZ)V"⟩ : MethodName)) rfl hown182 (mvT hZ182 (wd15 hw)) (mvT hZ182 (wd16 hw)) (mvT hZ182 (wd17 hw)) (by decide) (backOf (W := 1) (rm1_1 l Z a0 hw [] b181 b182 w_BIGINT h182 n0 OL182 fc184 fc185 g_b181 fc186 fc187 fc188 fc189 fc190) hZ182 (wd17 hw) (wd6 hw) (by decide) (by decide)) (g := (mkF m 101 #[.val (.int p1), .val (.long p2), .second, .val (.int p3), .val (.int p4), .val (.int (1 : Int32)), .val (.ref wc1), .val (.ref w_BIGINT), .val (.int (1 : Int32)), .unset, .unset, .unset, .unset] [(.int (1 : Int32)), (.int (0 : Int32)), (.int (2147483647 : Int32)), (.ref w_BIGINT), (.int (-1 : Int32)), (.ref b182), (.ref b181), (.ref b181)])) rfl (by rw [hml]; rfl) (Steps.refl _) (a := b181) (argsL := [(.ref b182), (.int (-1 : Int32)), (.ref w_BIGINT), (.int (2147483647 : Int32)), (.int (0 : Int32)), (.int (1 : Int32))]) (rest := [(.ref b181)]) (lenOf pd_1 rfl) rfl (by show 2 * 0 + _ ≤ _; exact Nat.le_of_eq rfl) (hb hby at_101) (fun _ _ => ⟨rfl, e182, (by decide : 3 + 0 ≤ _), (by decide : 42 + 0 ≤ _)⟩)
          dsimp only [Pt.U, Pt.locs, Pt.cells, Pt.slots] at X183 l183 y183 z183 st183 hQ183
          subst l183 y183 z183
          obtain ⟨rfl, Nq183, K183, u183_0, u183_1, u183_2, u183_3, u183_4, u183_5⟩ := hQ183
          have KK183 : Keep h0 T183.heap [] := KK182.trans K183 (allS (Or.inr sz_b181) all0)
          have OL183 := OL182.keep K183 (allS g_b181 all0)
          have N183 := Fr.app N160 Nq183
          obtain ⟨T191, h191, X191, e191, E191, A191, D191, -, st191⟩ := newO X183 hx hZ182 hown182 (wd38 hw) (wd39 hw) (wd40 hw) rfl (g := (mkF m 106 #[.val (.int p1), .val (.long p2), .second, .val (.int p3), .val (.int p4), .val (.int (1 : Int32)), .val (.ref wc1), .val (.ref w_BIGINT), .val (.int (1 : Int32)), .val (.ref b181), .unset, .unset, .unset] [])) rfl (hb hby at_106) (by decide) (by decide)
          obtain ⟨b191, g191⟩ : ∃ z, z = T183.heap.size := ⟨_, rfl⟩
          rw [← g191] at A191 D191 st191
          have g_b191 : n0 ≤ b191 := (Nat.le_trans (Nat.le_trans (Nat.le_of_eq OL183.1.symm) OL183.2.1) (Nat.le_of_eq g191.symm))
          have sz_b191 : h0.size ≤ b191 := (Nat.le_trans KK183.1 (Nat.le_of_eq g191.symm))
          have KK191 : Keep h0 h191 [] := KK183.ext E191
          have OL191 := OL183.ext E191
          have F_value_b191 : Fld Z h191 b191 "com/example/rowforge/rowforge/Field$Constant" "value" "Ljava/lang/Object;" .null := D191 (Or.inr (wd46 hw)) (ty := (.object "java/lang/Object")) (by decide)
          have F_column_b191 : Fld Z h191 b191 "com/example/rowforge/rowforge/Field$Constant" "column" "Lcom/example/rowforge/rowforge/Column;" .null := D191 (Or.inr (wd48 hw)) (ty := (.object "com/example/rowforge/rowforge/Column")) (by decide)
          obtain ⟨_, _, ⟨T192, L192, k192, n192⟩, -, X192, ⟨Lc192, hQ192, l192, y192, z192⟩, st192⟩ := X191.specialBack hx (y := (⟨"com/example/rowforge/rowforge/Field$Constant", "<init>", "(Ljava/lang/Object;Lcom/example/rowforge/rowforge/Column;)V"⟩ : MethodName)) rfl hown182 (mvT hZ182 (wd41 hw)) (mvT hZ182 (wd42 hw)) (mvT hZ182 (wd43 hw)) (by decide) (backOf (W := 1) (rm4_2 l Z a0 hw [] b191 wc1 b181 h191 n0 OL191 A191 F_value_b191 g_b191 F_column_b191) hZ182 (wd43 hw) (wd40 hw) (by decide) (by decide)) (g := (mkF m 114 #[.val (.int p1), .val (.long p2), .second, .val (.int p3), .val (.int p4), .val (.int (1 : Int32)), .val (.ref wc1), .val (.ref w_BIGINT), .val (.int (1 : Int32)), .val (.ref b181), .unset, .unset, .unset] [(.ref b181), (.ref wc1), (.ref b191), (.ref b191)])) rfl (by rw [hml]; rfl) (Steps.refl _) (a := b191) (argsL := [(.ref wc1), (.ref b181)]) (rest := [(.ref b191)]) (lenOf pd_2 rfl) rfl (by show 2 * 0 + _ ≤ _; exact Nat.le_of_eq rfl) (hb hby at_114) (fun _ _ => ⟨rfl, e191, (by decide : 4 + 0 ≤ _), (by decide : 44 + 0 ≤ _)⟩)
          dsimp only [Pt.U, Pt.locs, Pt.cells, Pt.slots] at X192 l192 y192 z192 st192 hQ192
          subst l192 y192 z192
          obtain ⟨rfl, Nq192, K192, u192_0, u192_1⟩ := hQ192
          have KK192 : Keep h0 T192.heap [] := KK191.trans K192 (allS (Or.inr sz_b191) all0)
          have OL192 := OL191.keep K192 (allS g_b191 all0)
          have N192 := Fr.app N183 Nq192
          obtain ⟨T193, h193, X193, e193, E193, A193, D193, -, st193⟩ := newO X192 hx hZ182 hown182 (wd49 hw) (wd50 hw) (wd51 hw) rfl (g := (mkF m 119 #[.val (.int p1), .val (.long p2), .second, .val (.int p3), .val (.int p4), .val (.int (1 : Int32)), .val (.ref wc1), .val (.ref w_BIGINT), .val (.int (1 : Int32)), .val (.ref b181), .val (.ref b191), .unset, .unset] [])) rfl (hb hby at_119) (by decide) (by decide)
          obtain ⟨b193, g193⟩ : ∃ z, z = T192.heap.size := ⟨_, rfl⟩
          rw [← g193] at A193 D193 st193
          have g_b193 : n0 ≤ b193 := (Nat.le_trans (Nat.le_trans (Nat.le_of_eq OL192.1.symm) OL192.2.1) (Nat.le_of_eq g193.symm))
          have sz_b193 : h0.size ≤ b193 := (Nat.le_trans KK192.1 (Nat.le_of_eq g193.symm))
          have KK193 : Keep h0 h193 [] := KK192.ext E193
          have OL193 := OL192.ext E193
          have F_modCount_b193 : Fld Z h193 b193 "java/util/AbstractList" "modCount" "I" (.int (0 : Int32)) := D193 (Or.inl (wd69 hw)) (ty := .int) (by decide)
          have F_elementData_b193 : Fld Z h193 b193 "java/util/ArrayList" "elementData" "[Ljava/lang/Object;" .null := D193 (Or.inl (wd72 hw)) (ty := (.array (.object "java/lang/Object"))) (by decide)
          obtain ⟨_, _, ⟨T194, L194, k194, n194⟩, -, X194, ⟨Lc194, hQ194, l194, y194, z194⟩, st194⟩ := X193.specialBack hx (y := (⟨"java/util/ArrayList", "<init>", "()V"⟩ : MethodName)) rfl hown182 (mvT hZ182 (wd52 hw)) (mvT hZ182 (wd53 hw)) (mvT hZ182 (wd54 hw)) (by decide) (backOf (W := 1) (rm5_0 l Z a0 hw [] b193 w_DEFAULTCAPACITY_EMPTY_ELEMENTDATA h193 n0 OL193 A193 F_modCount_b193 g_b193 F_elementData_b193 pr5) hZ182 (wd54 hw) (wd51 hw) (by decide) (by decide)) (g := (mkF m 123 #[.val (.int p1), .val (.long p2), .second, .val (.int p3), .val (.int p4), .val (.int (1 : Int32)), .val (.ref wc1), .val (.ref w_BIGINT), .val (.int (1 : Int32)), .val (.ref b181), .val (.ref b191), .unset, .unset] [(.ref b193), (.ref b193)])) rfl (by rw [hml]; rfl) (Steps.refl _) (a := b193) (argsL := []) (rest := [(.ref b193)]) (lenOf pd_0 rfl) rfl (by show 2 * 0 + _ ≤ _; exact Nat.le_of_eq rfl) (hb hby at_123) (fun _ _ => ⟨rfl, e193, (by decide : 5 + 0 ≤ _), (by decide : 47 + 0 ≤ _)⟩)
          dsimp only [Pt.U, Pt.locs, Pt.cells, Pt.slots] at X194 l194 y194 z194 st194 hQ194
          subst l194 y194 z194
          obtain ⟨rfl, Nq194, K194, u194_0, u194_1⟩ := hQ194
          have KK194 : Keep h0 T194.heap [] := KK193.trans K194 (allS (Or.inr sz_b193) all0)
          have OL194 := OL193.keep K194 (allS g_b193 all0)
          have N194 := Fr.app N192 Nq194
          have fc196 := ((u192_0.ext E193).keep K194 (ninS (Nat.ne_of_lt (Nat.lt_of_lt_of_le u192_1.lt (Nat.le_of_eq g193.symm))) nin0))
          have fc197 := (((A191.keep K192).ext E193).keep K194)
          obtain ⟨cq195, kq195, q195a, q195b, q195c⟩ := isOf hZ182 rfl fc197
          obtain ⟨_, _, ⟨T195, L195, k195, n195⟩, -, X195, ⟨Lc195, hQ195, l195, y195, z195⟩, st195⟩ := X194.virtualBack hx (y := (⟨"com/example/rowforge/rowforge/Field$Constant", "nullable", "()Z"⟩ : MethodName)) (z := (⟨"com/example/rowforge/rowforge/Field$Constant", "nullable", "()Z"⟩ : MethodName)) hown182 (mvT hZ182 (wd73 hw)) (mvT hZ182 (wd74 hw)) (notFace_of_selects (args := #[]) (mvT hZ182 (wd76 hw))) (mvT hZ182 (wd76 hw)) (mvT hZ182 (wd75 hw)) (by decide) (backOf (W := 0) (rm8_2 l Z a0 hw [] b191 wc1 T194.heap n0 OL194 fc196) hZ182 (wd77 hw) (wd40 hw) (by decide) (by decide)) q195a q195c (g := (mkF m 130 #[.val (.int p1), .val (.long p2), .second, .val (.int p3), .val (.int p4), .val (.int (1 : Int32)), .val (.ref wc1), .val (.ref w_BIGINT), .val (.int (1 : Int32)), .val (.ref b181), .val (.ref b191), .val (.ref b193), .unset] [(.ref b191)])) rfl (by rw [hml]; rfl) (Steps.refl _) (argsL := []) (rest := []) (lenOf pd_3 rfl) rfl (by show 2 * 0 + _ ≤ _; exact Nat.le_of_eq rfl) (hb hby at_130) (fun _ _ => ⟨rfl, rfl, (by decide : 5 + 0 ≤ _), (by decide : 47 + 0 ≤ _)⟩)
          dsimp only [Pt.U, Pt.locs, Pt.cells, Pt.slots] at X195 l195 y195 z195 st195 hQ195
          subst l195 y195 z195
          obtain ⟨rfl, Nq195, ec195⟩ := hQ195
          have N195 := Fr.app N194 Nq195
          obtain ⟨cq198, kq198, q198a, q198b, q198c⟩ := isOf hZ182 ec195 fc197
          obtain ⟨_, _, ⟨T198, L198, k198, n198⟩, -, X198, ⟨Lc198, hQ198, l198, y198, z198⟩, st198⟩ := X195.virtualBack hx (y := (⟨"com/example/rowforge/rowforge/Field$Constant", "value", "(Ljava/util/List;)Ljava/lang/Object;"⟩ : MethodName)) (z := (⟨"com/example/rowforge/rowforge/Field$Constant", "value", "(Ljava/util/List;)Ljava/lang/Object;"⟩ : MethodName)) hown182 (mvT hZ182 (wd78 hw)) (mvT hZ182 (wd79 hw)) (notFace_of_selects (args := #[]) (mvT hZ182 (wd81 hw))) (mvT hZ182 (wd81 hw)) (mvT hZ182 (wd80 hw)) (by decide) (backOf (W := 1) (rm9_2 l Z a0 hw [] b191 b193 wc1 T194.heap n0 OL194 fc196) hZ182 (wd82 hw) (wd40 hw) (by decide) (by decide)) q198a q198c (g := (mkF m 156 #[.val (.int p1), .val (.long p2), .second, .val (.int p3), .val (.int p4), .val (.int (1 : Int32)), .val (.ref wc1), .val (.ref w_BIGINT), .val (.int (1 : Int32)), .val (.ref b181), .val (.ref b191), .val (.ref b193), .val (.int (0 : Int32))] [(.ref b193), (.ref b191), (.int (0 : Int32))])) rfl (by rw [hml]; rfl) (Steps.refl _) (argsL := [(.ref b193)]) (rest := [(.int (0 : Int32))]) (lenOf pd_4 rfl) rfl (by show 2 * 0 + _ ≤ _; exact Nat.le_of_eq rfl) (hb hby at_156) (fun _ _ => ⟨rfl, ec195, (by decide : 5 + 0 ≤ _), (by decide : 47 + 0 ≤ _)⟩)
          dsimp only [Pt.U, Pt.locs, Pt.cells, Pt.slots] at X198 l198 y198 z198 st198 hQ198
          subst l198 y198 z198
          obtain ⟨rfl, Nq198, ec198⟩ := hQ198
          have N198 := Fr.app N195 Nq198
          obtain ⟨fs, hr, hrun, hended, hRW⟩ := X198.leaveW (s := s) hS182 (by rw [ec198]; exact (Nat.le_trans (Nat.le_trans (Nat.le_trans (Nat.le_trans (Nat.le_trans hk182 K183.1) E191.1) K192.1) E193.1) K194.1)) (v := some (.int (1 : Int32))) (fun h => by rw [Bd.returns] at h; cases h)
          refine ⟨_, _, pre162 _ ?_, hrun, hended, _, _, rfl, ⟨rfl, N198⟩, hRW.1, hRW.2.1, hRW.2.2.1, hRW.2.2.2.mono (by decide) (by decide)⟩
          show Steps p.tables e below (T161.setTop (mkF m 77 #[.val (.int p1), .val (.long p2), .second, .val (.int p3), .val (.int p4), .val (.int (1 : Int32)), .val (.ref wc1), .val (.ref w_BIGINT), .unset, .unset, .unset, .unset, .unset] [(.int y3)])) _
          refine XS.ifNo X161.here hx rfl (hb hby at_77) rfl ((if0 _ _).trans (feq hf162).1) ?_
          show Steps p.tables e below (T161.setTop (mkF m 80 #[.val (.int p1), .val (.long p2), .second, .val (.int p3), .val (.int p4), .val (.int (1 : Int32)), .val (.ref wc1), .val (.ref w_BIGINT), .unset, .unset, .unset, .unset, .unset] [])) _
          refine XS.iconst X161.here hx rfl (hb hby at_80) ?_
          refine XS.goto X161.here hx rfl (pc0 := 81) (pc' := 85) rfl (hb hby at_81) (by decide) (by decide) ?_
          refine XS.istore X161.here hx rfl (hb hby at_85) rfl (l' := #[.val (.int p1), .val (.long p2), .second, .val (.int p3), .val (.int p4), .val (.int (1 : Int32)), .val (.ref wc1), .val (.ref w_BIGINT), .val (.int (1 : Int32)), .unset, .unset, .unset, .unset]) rfl ?_
          show Steps p.tables e below (T161.setTop (mkF m 87 #[.val (.int p1), .val (.long p2), .second, .val (.int p3), .val (.int p4), .val (.int (1 : Int32)), .val (.ref wc1), .val (.ref w_BIGINT), .val (.int (1 : Int32)), .unset, .unset, .unset, .unset] [])) _
          refine st181 _ ?_
          show Steps p.tables e below (T181.setTop (mkF m 90 #[.val (.int p1), .val (.long p2), .second, .val (.int p3), .val (.int p4), .val (.int (1 : Int32)), .val (.ref wc1), .val (.ref w_BIGINT), .val (.int (1 : Int32)), .unset, .unset, .unset, .unset] [(.ref b181)])) _
          refine XS.dup X181.here hx rfl (hb hby at_90) rfl rfl ?_
          refine st182 _ ?_
          refine XS.iconst X182.here hx rfl (hb hby at_93) ?_
          refine XS.aload X182.here hx rfl (hb hby at_94) rfl rfl ?_
          show Steps p.tables e below (T182.setTop (mkF m 96 #[.val (.int p1), .val (.long p2), .second, .val (.int p3), .val (.int p4), .val (.int (1 : Int32)), .val (.ref wc1), .val (.ref w_BIGINT), .val (.int (1 : Int32)), .unset, .unset, .unset, .unset] [(.ref w_BIGINT), (.int (-1 : Int32)), (.ref b182), (.ref b181), (.ref b181)])) _
          refine X182.ldcInt hx hown182 (mvT hZ182 (wd0 hw)) (g := (mkF m 96 #[.val (.int p1), .val (.long p2), .second, .val (.int p3), .val (.int p4), .val (.int (1 : Int32)), .val (.ref wc1), .val (.ref w_BIGINT), .val (.int (1 : Int32)), .unset, .unset, .unset, .unset] [(.ref w_BIGINT), (.int (-1 : Int32)), (.ref b182), (.ref b181), (.ref b181)])) rfl (hb hby at_96) _ ?_
          refine XS.iconst X182.here hx rfl (hb hby at_98) ?_
          refine XS.iload X182.here hx rfl (hb hby at_99) rfl ?_
          show Steps p.tables e below (T182.setTop (mkF m 101 #[.val (.int p1), .val (.long p2), .second, .val (.int p3), .val (.int p4), .val (.int (1 : Int32)), .val (.ref wc1), .val (.ref w_BIGINT), .val (.int (1 : Int32)), .unset, .unset, .unset, .unset] [(.int (1 : Int32)), (.int (0 : Int32)), (.int (2147483647 : Int32)), (.ref w_BIGINT), (.int (-1 : Int32)), (.ref b182), (.ref b181), (.ref b181)])) _
          refine st183.trans ?_
          show Steps p.tables e below (T183.setTop (mkF m 104 #[.val (.int p1), .val (.long p2), .second, .val (.int p3), .val (.int p4), .val (.int (1 : Int32)), .val (.ref wc1), .val (.ref w_BIGINT), .val (.int (1 : Int32)), .unset, .unset, .unset, .unset] [(.ref b181)])) _
          refine XS.astore X183.here hx rfl (hb hby at_104) rfl rfl (l' := #[.val (.int p1), .val (.long p2), .second, .val (.int p3), .val (.int p4), .val (.int (1 : Int32)), .val (.ref wc1), .val (.ref w_BIGINT), .val (.int (1 : Int32)), .val (.ref b181), .unset, .unset, .unset]) rfl ?_
          show Steps p.tables e below (T183.setTop (mkF m 106 #[.val (.int p1), .val (.long p2), .second, .val (.int p3), .val (.int p4), .val (.int (1 : Int32)), .val (.ref wc1), .val (.ref w_BIGINT), .val (.int (1 : Int32)), .val (.ref b181), .unset, .unset, .unset] [])) _
          refine st191 _ ?_
          show Steps p.tables e below (T191.setTop (mkF m 109 #[.val (.int p1), .val (.long p2), .second, .val (.int p3), .val (.int p4), .val (.int (1 : Int32)), .val (.ref wc1), .val (.ref w_BIGINT), .val (.int (1 : Int32)), .val (.ref b181), .unset, .unset, .unset] [(.ref b191)])) _
          refine XS.dup X191.here hx rfl (hb hby at_109) rfl rfl ?_
          refine XS.aload X191.here hx rfl (hb hby at_110) rfl rfl ?_
          refine XS.aload X191.here hx rfl (hb hby at_112) rfl rfl ?_
          show Steps p.tables e below (T191.setTop (mkF m 114 #[.val (.int p1), .val (.long p2), .second, .val (.int p3), .val (.int p4), .val (.int (1 : Int32)), .val (.ref wc1), .val (.ref w_BIGINT), .val (.int (1 : Int32)), .val (.ref b181), .unset, .unset, .unset] [(.ref b181), (.ref wc1), (.ref b191), (.ref b191)])) _
          refine st192.trans ?_
          show Steps p.tables e below (T192.setTop (mkF m 117 #[.val (.int p1), .val (.long p2), .second, .val (.int p3), .val (.int p4), .val (.int (1 : Int32)), .val (.ref wc1), .val (.ref w_BIGINT), .val (.int (1 : Int32)), .val (.ref b181), .unset, .unset, .unset] [(.ref b191)])) _
          refine XS.astore X192.here hx rfl (hb hby at_117) rfl rfl (l' := #[.val (.int p1), .val (.long p2), .second, .val (.int p3), .val (.int p4), .val (.int (1 : Int32)), .val (.ref wc1), .val (.ref w_BIGINT), .val (.int (1 : Int32)), .val (.ref b181), .val (.ref b191), .unset, .unset]) rfl ?_
          show Steps p.tables e below (T192.setTop (mkF m 119 #[.val (.int p1), .val (.long p2), .second, .val (.int p3), .val (.int p4), .val (.int (1 : Int32)), .val (.ref wc1), .val (.ref w_BIGINT), .val (.int (1 : Int32)), .val (.ref b181), .val (.ref b191), .unset, .unset] [])) _
          refine st193 _ ?_
          show Steps p.tables e below (T193.setTop (mkF m 122 #[.val (.int p1), .val (.long p2), .second, .val (.int p3), .val (.int p4), .val (.int (1 : Int32)), .val (.ref wc1), .val (.ref w_BIGINT), .val (.int (1 : Int32)), .val (.ref b181), .val (.ref b191), .unset, .unset] [(.ref b193)])) _
          refine XS.dup X193.here hx rfl (hb hby at_122) rfl rfl ?_
          show Steps p.tables e below (T193.setTop (mkF m 123 #[.val (.int p1), .val (.long p2), .second, .val (.int p3), .val (.int p4), .val (.int (1 : Int32)), .val (.ref wc1), .val (.ref w_BIGINT), .val (.int (1 : Int32)), .val (.ref b181), .val (.ref b191), .unset, .unset] [(.ref b193), (.ref b193)])) _
          refine st194.trans ?_
          show Steps p.tables e below (T194.setTop (mkF m 126 #[.val (.int p1), .val (.long p2), .second, .val (.int p3), .val (.int p4), .val (.int (1 : Int32)), .val (.ref wc1), .val (.ref w_BIGINT), .val (.int (1 : Int32)), .val (.ref b181), .val (.ref b191), .unset, .unset] [(.ref b193)])) _
          refine XS.astore X194.here hx rfl (hb hby at_126) rfl rfl (l' := #[.val (.int p1), .val (.long p2), .second, .val (.int p3), .val (.int p4), .val (.int (1 : Int32)), .val (.ref wc1), .val (.ref w_BIGINT), .val (.int (1 : Int32)), .val (.ref b181), .val (.ref b191), .val (.ref b193), .unset]) rfl ?_
          refine XS.aload X194.here hx rfl (hb hby at_128) rfl rfl ?_
          show Steps p.tables e below (T194.setTop (mkF m 130 #[.val (.int p1), .val (.long p2), .second, .val (.int p3), .val (.int p4), .val (.int (1 : Int32)), .val (.ref wc1), .val (.ref w_BIGINT), .val (.int (1 : Int32)), .val (.ref b181), .val (.ref b191), .val (.ref b193), .unset] [(.ref b191)])) _
          refine st195.trans ?_
          show Steps p.tables e below (T195.setTop (mkF m 133 #[.val (.int p1), .val (.long p2), .second, .val (.int p3), .val (.int p4), .val (.int (1 : Int32)), .val (.ref wc1), .val (.ref w_BIGINT), .val (.int (1 : Int32)), .val (.ref b181), .val (.ref b191), .val (.ref b193), .unset] [(.int (0 : Int32))])) _
          refine XS.istore X195.here hx rfl (hb hby at_133) rfl (l' := #[.val (.int p1), .val (.long p2), .second, .val (.int p3), .val (.int p4), .val (.int (1 : Int32)), .val (.ref wc1), .val (.ref w_BIGINT), .val (.int (1 : Int32)), .val (.ref b181), .val (.ref b191), .val (.ref b193), .val (.int (0 : Int32))]) rfl ?_
          refine XS.iload X195.here hx rfl (hb hby at_135) rfl ?_
          refine XS.iload X195.here hx rfl (hb hby at_137) rfl ?_
          show Steps p.tables e below (T195.setTop (mkF m 139 #[.val (.int p1), .val (.long p2), .second, .val (.int p3), .val (.int p4), .val (.int (1 : Int32)), .val (.ref wc1), .val (.ref w_BIGINT), .val (.int (1 : Int32)), .val (.ref b181), .val (.ref b191), .val (.ref b193), .val (.int (0 : Int32))] [(.int (1 : Int32)), (.int (0 : Int32))])) _
          refine XS.ifYes X195.here hx rfl (pc0 := 139) (pc' := 146) rfl (hb hby at_139) rfl ((if0 _ _).trans (feq (by decide : ¬ ((1 : Int32) = (0 : Int32)))).2) (by decide) (by decide) ?_
          show Steps p.tables e below (T195.setTop (mkF m 146 #[.val (.int p1), .val (.long p2), .second, .val (.int p3), .val (.int p4), .val (.int (1 : Int32)), .val (.ref wc1), .val (.ref w_BIGINT), .val (.int (1 : Int32)), .val (.ref b181), .val (.ref b191), .val (.ref b193), .val (.int (0 : Int32))] [(.int (0 : Int32))])) _
          refine XS.iconst X195.here hx rfl (hb hby at_146) ?_
          show Steps p.tables e below (T195.setTop (mkF m 147 #[.val (.int p1), .val (.long p2), .second, .val (.int p3), .val (.int p4), .val (.int (1 : Int32)), .val (.ref wc1), .val (.ref w_BIGINT), .val (.int (1 : Int32)), .val (.ref b181), .val (.ref b191), .val (.ref b193), .val (.int (0 : Int32))] [(.int (0 : Int32)), (.int (0 : Int32))])) _
          refine XS.icmpNo X195.here hx rfl (hb hby at_147) rfl (teq (rfl : (0 : Int32) = (0 : Int32))).2 ?_
          show Steps p.tables e below (T195.setTop (mkF m 150 #[.val (.int p1), .val (.long p2), .second, .val (.int p3), .val (.int p4), .val (.int (1 : Int32)), .val (.ref wc1), .val (.ref w_BIGINT), .val (.int (1 : Int32)), .val (.ref b181), .val (.ref b191), .val (.ref b193), .val (.int (0 : Int32))] [])) _
          refine XS.iload X195.here hx rfl (hb hby at_150) rfl ?_
          refine XS.aload X195.here hx rfl (hb hby at_152) rfl rfl ?_
          refine XS.aload X195.here hx rfl (hb hby at_154) rfl rfl ?_
          show Steps p.tables e below (T195.setTop (mkF m 156 #[.val (.int p1), .val (.long p2), .second, .val (.int p3), .val (.int p4), .val (.int (1 : Int32)), .val (.ref wc1), .val (.ref w_BIGINT), .val (.int (1 : Int32)), .val (.ref b181), .val (.ref b191), .val (.ref b193), .val (.int (0 : Int32))] [(.ref b193), (.ref b191), (.int (0 : Int32))])) _
          refine st198.trans ?_
          show Steps p.tables e below (T198.setTop (mkF m 159 #[.val (.int p1), .val (.long p2), .second, .val (.int p3), .val (.int p4), .val (.int (1 : Int32)), .val (.ref wc1), .val (.ref w_BIGINT), .val (.int (1 : Int32)), .val (.ref b181), .val (.ref b191), .val (.ref b193), .val (.int (0 : Int32))] [(.ref wc1), (.int (0 : Int32))])) _
          refine XS.ifnonnullYes X198.here hx rfl (pc0 := 159) (pc' := 166) rfl (hb hby at_159) rfl (by decide) (by decide) ?_
          show Steps p.tables e below (T198.setTop (mkF m 166 #[.val (.int p1), .val (.long p2), .second, .val (.int p3), .val (.int p4), .val (.int (1 : Int32)), .val (.ref wc1), .val (.ref w_BIGINT), .val (.int (1 : Int32)), .val (.ref b181), .val (.ref b191), .val (.ref b193), .val (.int (0 : Int32))] [(.int (0 : Int32))])) _
          refine XS.iconst X198.here hx rfl (hb hby at_166) ?_
          show Steps p.tables e below (T198.setTop (mkF m 167 #[.val (.int p1), .val (.long p2), .second, .val (.int p3), .val (.int p4), .val (.int (1 : Int32)), .val (.ref wc1), .val (.ref w_BIGINT), .val (.int (1 : Int32)), .val (.ref b181), .val (.ref b191), .val (.ref b193), .val (.int (0 : Int32))] [(.int (0 : Int32)), (.int (0 : Int32))])) _
          refine XS.icmpNo X198.here hx rfl (hb hby at_167) rfl (teq (rfl : (0 : Int32) = (0 : Int32))).2 ?_
          show Steps p.tables e below (T198.setTop (mkF m 170 #[.val (.int p1), .val (.long p2), .second, .val (.int p3), .val (.int p4), .val (.int (1 : Int32)), .val (.ref wc1), .val (.ref w_BIGINT), .val (.int (1 : Int32)), .val (.ref b181), .val (.ref b191), .val (.ref b193), .val (.int (0 : Int32))] [])) _
          refine XS.iconst X198.here hx rfl (hb hby at_170) ?_
          refine XS.goto X198.here hx rfl (pc0 := 171) (pc' := 175) rfl (hb hby at_171) (by decide) (by decide) ?_
          show Steps p.tables e below (T198.setTop (mkF m 175 #[.val (.int p1), .val (.long p2), .second, .val (.int p3), .val (.int p4), .val (.int (1 : Int32)), .val (.ref wc1), .val (.ref w_BIGINT), .val (.int (1 : Int32)), .val (.ref b181), .val (.ref b191), .val (.ref b193), .val (.int (0 : Int32))] [(.int (1 : Int32))])) _
          exact retN X198 hx (t := .boolean) Bd.returns (by simp) (hb hby at_175) hr
  · rw [pr1] at hf1
    obtain ⟨_, _, ⟨T199, L199, k199, n199⟩, -, X199, ⟨Lc199, hQ199, l199, y199, z199⟩, st199⟩ := Jvm.LawKit.callS X0 hx (y := (⟨"java/lang/String", "valueOf", "(C)Ljava/lang/String;"⟩ : MethodName)) hown (mvT hZ (wd85 hw)) (mvT hZ (wd86 hw)) (mvT hZ (wd8 hw)) (mvT hZ (wd87 hw)) (by decide) (backOf (W := 0) (rm10_0 l Z a0 hw [] y5 n_COMPACT_STRINGS h0 n0 OL0 pr12 pr13 pr14) hZ (wd87 hw) (wd8 hw) (by decide) (by decide)) (g := (mkF m 63 #[.val (.int p1), .val (.long p2), .second, .val (.int p3), .val (.int p4), .val (.int (2 : Int32)), .unset, .unset, .unset, .unset, .unset, .unset, .unset] [(.int y5)])) rfl (by rw [hml]; rfl) (argsL := [(.int y5)]) (rest := []) (lenOf pd_10 rfl) rfl (by show 2 * 0 + _ ≤ _; exact Nat.le_of_eq rfl) (hb hby at_63) (fun _ _ => ⟨rfl, e0, (by decide : 0 + 2 ≤ _), (by decide : 0 + 5 ≤ _)⟩)
    dsimp only [Pt.U, Pt.locs, Pt.cells, Pt.slots] at X199 l199 y199 z199 st199 hQ199
    subst l199 y199 z199
    obtain ⟨b199_0, b199_1, kx199_0, rfl, Nq199, K199, u199_0, u199_1, u199_2, u199_3, u199_4, u199_5, u199_6⟩ := hQ199
    have KK199 : Keep h0 T199.heap [] := (Keep.refl h0 []).trans K199 all0
    have OL199 := OL0.keep K199 all0
    have g_b199_0 : n0 ≤ b199_0 := Nat.le_trans (Nat.le_trans (Nat.le_of_eq OL0.1.symm) OL0.2.1) u199_0
    have sz_b199_0 : h0.size ≤ b199_0 := Nat.le_trans (Keep.refl h0 []).1 u199_0
    have g_b199_1 : n0 ≤ b199_1 := Nat.le_trans (Nat.le_trans (Nat.le_of_eq OL0.1.symm) OL0.2.1) u199_1
    have sz_b199_1 : h0.size ≤ b199_1 := Nat.le_trans (Keep.refl h0 []).1 u199_1
    have N199 := Fr.app N0 Nq199
    obtain ⟨T200, X200, e200, st200⟩ := getS2 X199 hx hZ hown (host := "") (Or.inl (wd1 hw)) Via.refl rfl (pr3.ext OL199.2) (g := (mkF m 68 #[.val (.int p1), .val (.long p2), .second, .val (.int p3), .val (.int p4), .val (.int (2 : Int32)), .val (.ref b199_0), .unset, .unset, .unset, .unset, .unset, .unset] [])) rfl (hb hby at_68)
    have pre201 : ∀ t, Steps p.tables e below (T200.setTop (mkF m 77 #[.val (.int p1), .val (.long p2), .second, .val (.int p3), .val (.int p4), .val (.int (2 : Int32)), .val (.ref b199_0), .val (.ref w_VARCHAR), .unset, .unset, .unset, .unset, .unset] [(.int y3)])) t → Steps p.tables e below (s₁.setTop (entryFrame m #[(.int p1), (.long p2), (.int p3), (.int p4)] maxLocals)) t := by
      intro t kt
      refine pre1 _ ?_
      show Steps p.tables e below (s₁.setTop (mkF m 5 #[.val (.int p1), .val (.long p2), .second, .val (.int p3), .val (.int p4), .unset, .unset, .unset, .unset, .unset, .unset, .unset, .unset] [(.int (3 : Int32)), (.int y1)])) _
      refine iremM X0 hx rfl (hb hby at_5) rfl (by decide) ?_
      show Steps p.tables e below (s₁.setTop (mkF m 6 #[.val (.int p1), .val (.long p2), .second, .val (.int p3), .val (.int p4), .unset, .unset, .unset, .unset, .unset, .unset, .unset, .unset] [(.int (y1 % (3 : Int32)))])) _
      rw [hf1]
      show Steps p.tables e below (s₁.setTop (mkF m 6 #[.val (.int p1), .val (.long p2), .second, .val (.int p3), .val (.int p4), .unset, .unset, .unset, .unset, .unset, .unset, .unset, .unset] [(.int (2 : Int32))])) _
      refine XS.istore X0.here hx rfl (hb hby at_6) rfl (l' := #[.val (.int p1), .val (.long p2), .second, .val (.int p3), .val (.int p4), .val (.int (2 : Int32)), .unset, .unset, .unset, .unset, .unset, .unset, .unset]) rfl ?_
      refine XS.iload X0.here hx rfl (hb hby at_8) rfl ?_
      show Steps p.tables e below (s₁.setTop (mkF m 10 #[.val (.int p1), .val (.long p2), .second, .val (.int p3), .val (.int p4), .val (.int (2 : Int32)), .unset, .unset, .unset, .unset, .unset, .unset, .unset] [(.int (2 : Int32))])) _
      refine XS.ifYes X0.here hx rfl (pc0 := 10) (pc' := 37) rfl (hb hby at_10) rfl ((if0 _ _).trans (feq (by decide : ¬ ((2 : Int32) = (0 : Int32)))).2) (by decide) (by decide) ?_
      show Steps p.tables e below (s₁.setTop (mkF m 37 #[.val (.int p1), .val (.long p2), .second, .val (.int p3), .val (.int p4), .val (.int (2 : Int32)), .unset, .unset, .unset, .unset, .unset, .unset, .unset] [])) _
      refine XS.iload X0.here hx rfl (hb hby at_37) rfl ?_
      refine XS.iconst X0.here hx rfl (hb hby at_39) ?_
      show Steps p.tables e below (s₁.setTop (mkF m 40 #[.val (.int p1), .val (.long p2), .second, .val (.int p3), .val (.int p4), .val (.int (2 : Int32)), .unset, .unset, .unset, .unset, .unset, .unset, .unset] [(.int (1 : Int32)), (.int (2 : Int32))])) _
      refine XS.icmpYes X0.here hx rfl (pc0 := 40) (pc' := 57) rfl (hb hby at_40) rfl (feq (by decide : ¬ ((2 : Int32) = (1 : Int32)))).2 (by decide) (by decide) ?_
      show Steps p.tables e below (s₁.setTop (mkF m 57 #[.val (.int p1), .val (.long p2), .second, .val (.int p3), .val (.int p4), .val (.int (2 : Int32)), .unset, .unset, .unset, .unset, .unset, .unset, .unset] [])) _
      refine XS.iloadN X0.here hx rfl (hb hby at_57) rfl ?_
      refine XS.sipush X0.here hx rfl (hb hby at_58) ?_
      show Steps p.tables e below (s₁.setTop (mkF m 61 #[.val (.int p1), .val (.long p2), .second, .val (.int p3), .val (.int p4), .val (.int (2 : Int32)), .unset, .unset, .unset, .unset, .unset, .unset, .unset] [(.int (255 : Int32)), (.int p3)])) _
      refine XS.iand X0.here hx rfl (hb hby at_61) rfl ?_
      show Steps p.tables e below (s₁.setTop (mkF m 62 #[.val (.int p1), .val (.long p2), .second, .val (.int p3), .val (.int p4), .val (.int (2 : Int32)), .unset, .unset, .unset, .unset, .unset, .unset, .unset] [(.int (p3 &&& (255 : Int32)))])) _
      rw [pr10]
      show Steps p.tables e below (s₁.setTop (mkF m 62 #[.val (.int p1), .val (.long p2), .second, .val (.int p3), .val (.int p4), .val (.int (2 : Int32)), .unset, .unset, .unset, .unset, .unset, .unset, .unset] [(.int y4)])) _
      refine XS.i2c X0.here hx rfl (hb hby at_62) rfl ?_
      show Steps p.tables e below (s₁.setTop (mkF m 63 #[.val (.int p1), .val (.long p2), .second, .val (.int p3), .val (.int p4), .val (.int (2 : Int32)), .unset, .unset, .unset, .unset, .unset, .unset, .unset] [(.int (y4.toUInt32.toUInt16.toUInt32.toInt32))])) _
      rw [pr11]
      show Steps p.tables e below (s₁.setTop (mkF m 63 #[.val (.int p1), .val (.long p2), .second, .val (.int p3), .val (.int p4), .val (.int (2 : Int32)), .unset, .unset, .unset, .unset, .unset, .unset, .unset] [(.int y5)])) _
      refine st199 _ ?_
      show Steps p.tables e below (T199.setTop (mkF m 66 #[.val (.int p1), .val (.long p2), .second, .val (.int p3), .val (.int p4), .val (.int (2 : Int32)), .unset, .unset, .unset, .unset, .unset, .unset, .unset] [(.ref b199_0)])) _
      refine XS.astore X199.here hx rfl (hb hby at_66) rfl rfl (l' := #[.val (.int p1), .val (.long p2), .second, .val (.int p3), .val (.int p4), .val (.int (2 : Int32)), .val (.ref b199_0), .unset, .unset, .unset, .unset, .unset, .unset]) rfl ?_
      show Steps p.tables e below (T199.setTop (mkF m 68 #[.val (.int p1), .val (.long p2), .second, .val (.int p3), .val (.int p4), .val (.int (2 : Int32)), .val (.ref b199_0), .unset, .unset, .unset, .unset, .unset, .unset] [])) _
      refine st200 _ ?_
      show Steps p.tables e below (T200.setTop (mkF m 71 #[.val (.int p1), .val (.long p2), .second, .val (.int p3), .val (.int p4), .val (.int (2 : Int32)), .val (.ref b199_0), .unset, .unset, .unset, .unset, .unset, .unset] [(.ref w_VARCHAR)])) _
      refine XS.astore X200.here hx rfl (hb hby at_71) rfl rfl (l' := #[.val (.int p1), .val (.long p2), .second, .val (.int p3), .val (.int p4), .val (.int (2 : Int32)), .val (.ref b199_0), .val (.ref w_VARCHAR), .unset, .unset, .unset, .unset, .unset]) rfl ?_
      refine XS.iload X200.here hx rfl (hb hby at_73) rfl ?_
      refine XS.iconst X200.here hx rfl (hb hby at_75) ?_
      show Steps p.tables e below (T200.setTop (mkF m 76 #[.val (.int p1), .val (.long p2), .second, .val (.int p3), .val (.int p4), .val (.int (2 : Int32)), .val (.ref b199_0), .val (.ref w_VARCHAR), .unset, .unset, .unset, .unset, .unset] [(.int (1 : Int32)), (.int p4)])) _
      refine XS.iand X200.here hx rfl (hb hby at_76) rfl ?_
      show Steps p.tables e below (T200.setTop (mkF m 77 #[.val (.int p1), .val (.long p2), .second, .val (.int p3), .val (.int p4), .val (.int (2 : Int32)), .val (.ref b199_0), .val (.ref w_VARCHAR), .unset, .unset, .unset, .unset, .unset] [(.int (p4 &&& (1 : Int32)))])) _
      rw [pr4]
      exact kt
    by_cases hf201 : y3 = (0 : Int32)
    · obtain ⟨T202, h202, X202, e202, E202, A202, D202, -, st202⟩ := newO X200 hx hZ hown (wd4 hw) (wd5 hw) (wd6 hw) e200 (g := (mkF m 87 #[.val (.int p1), .val (.long p2), .second, .val (.int p3), .val (.int p4), .val (.int (2 : Int32)), .val (.ref b199_0), .val (.ref w_VARCHAR), .val (.int (0 : Int32)), .unset, .unset, .unset, .unset] [])) rfl (hb hby at_87) (by decide) (by decide)
      obtain ⟨b202, g202⟩ : ∃ z, z = T199.heap.size := ⟨_, rfl⟩
      rw [← g202] at A202 D202 st202
      have g_b202 : n0 ≤ b202 := (Nat.le_trans (Nat.le_trans (Nat.le_of_eq OL199.1.symm) OL199.2.1) (Nat.le_of_eq g202.symm))
      have sz_b202 : h0.size ≤ b202 := (Nat.le_trans KK199.1 (Nat.le_of_eq g202.symm))
      have KK202 : Keep h0 h202 [] := KK199.ext E202
      have OL202 := OL199.ext E202
      have F_name_b202 : Fld Z h202 b202 "com/example/rowforge/rowforge/Column" "name" "Ljava/lang/String;" .null := D202 (Or.inr (wd27 hw)) (ty := (.object "java/lang/String")) (by decide)
      have F_position_b202 : Fld Z h202 b202 "com/example/rowforge/rowforge/Column" "position" "I" (.int (0 : Int32)) := D202 (Or.inr (wd29 hw)) (ty := .int) (by decide)
      have F_type_b202 : Fld Z h202 b202 "com/example/rowforge/rowforge/Column" "type" "Lcom/example/rowforge/rowforge/SqlType;" .null := D202 (Or.inr (wd31 hw)) (ty := (.object "com/example/rowforge/rowforge/SqlType")) (by decide)
      have F_length_b202 : Fld Z h202 b202 "com/example/rowforge/rowforge/Column" "length" "I" (.int (0 : Int32)) := D202 (Or.inr (wd33 hw)) (ty := .int) (by decide)
      have F_scale_b202 : Fld Z h202 b202 "com/example/rowforge/rowforge/Column" "scale" "I" (.int (0 : Int32)) := D202 (Or.inr (wd35 hw)) (ty := .int) (by decide)
      have F_nullable_b202 : Fld Z h202 b202 "com/example/rowforge/rowforge/Column" "nullable" "Z" (.int (0 : Int32)) := D202 (Or.inr (wd37 hw)) (ty := .boolean) (by decide)
      obtain ⟨b203, T203, h203, k203, X203, e203, E203, hS203, hk203, hZ203, hown203, st203⟩ := ldcS (s := s) (vm0 := s.vm) X202 hx hZ hown (wd7 hw) (own_wS hw) e202 ((State.WarmedH.refl s).since 0) (Nat.le_trans (Nat.le_trans (Nat.zero_le _) K199.1) E202.1) (g := (mkF m 91 #[.val (.int p1), .val (.long p2), .second, .val (.int p3), .val (.int p4), .val (.int (2 : Int32)), .val (.ref b199_0), .val (.ref w_VARCHAR), .val (.int (0 : Int32)), .unset, .unset, .unset, .unset] [(.ref b202), (.ref b202)])) rfl (hb hby at_91) (n := 32) (by decide) (by decide) (by decide) (by decide)
      have KK203 : Keep h0 h203 [] := KK202.ext E203
      have OL203 := OL202.ext E203
      have fc205 := (A202.ext E203)
      have fc206 := (F_name_b202.ext E203)
      have fc207 := (F_position_b202.ext E203)
      have fc208 := (F_type_b202.ext E203)
      have fc209 := (F_length_b202.ext E203)
      have fc210 := (F_scale_b202.ext E203)
      have fc211 := (F_nullable_b202.ext E203)
      obtain ⟨_, _, ⟨T204, L204, k204, n204⟩, -, X204, ⟨Lc204, hQ204, l204, y204, z204⟩, st204⟩ := X203.specialBack hx (y := (⟨"com/example/rowforge/rowforge/Column", "<init>", "(Ljava/lang/String;ILcom/example/rowforge/rowforge/SqlType;IIZ)V"⟩ : MethodName)) rfl hown203 (mvT hZ203 (wd15 hw)) (mvT hZ203 (wd16 hw)) (mvT hZ203 (wd17 hw)) (by decide) (backOf (W := 1) (rm1_0 l Z a0 hw [] b202 b203 w_VARCHAR h203 n0 OL203 fc205 fc206 g_b202 fc207 fc208 fc209 fc210 fc211) hZ203 (wd17 hw) (wd6 hw) (by decide) (by decide)) (g := (mkF m 101 #[.val (.int p1), .val (.long p2), .second, .val (.int p3), .val (.int p4), .val (.int (2 : Int32)), .val (.ref b199_0), .val (.ref w_VARCHAR), .val (.int (0 : Int32)), .unset, .unset, .unset, .unset] [(.int (0 : Int32)), (.int (0 : Int32)), (.int (2147483647 : Int32)), (.ref w_VARCHAR), (.int (-1 : Int32)), (.ref b203), (.ref b202), (.ref b202)])) rfl (by rw [hml]; rfl) (Steps.refl _) (a := b202) (argsL := [(.ref b203), (.int (-1 : Int32)), (.ref w_VARCHAR), (.int (2147483647 : Int32)), (.int (0 : Int32)), (.int (0 : Int32))]) (rest := [(.ref b202)]) (lenOf pd_1 rfl) rfl (by show 2 * 0 + _ ≤ _; exact Nat.le_of_eq rfl) (hb hby at_101) (fun _ _ => ⟨rfl, e203, (by decide : 5 + 0 ≤ _), (by decide : 47 + 0 ≤ _)⟩)
      dsimp only [Pt.U, Pt.locs, Pt.cells, Pt.slots] at X204 l204 y204 z204 st204 hQ204
      subst l204 y204 z204
      obtain ⟨rfl, Nq204, K204, u204_0, u204_1, u204_2, u204_3, u204_4, u204_5⟩ := hQ204
      have KK204 : Keep h0 T204.heap [] := KK203.trans K204 (allS (Or.inr sz_b202) all0)
      have OL204 := OL203.keep K204 (allS g_b202 all0)
      have N204 := Fr.app N199 Nq204
      obtain ⟨T212, h212, X212, e212, E212, A212, D212, -, st212⟩ := newO X204 hx hZ203 hown203 (wd38 hw) (wd39 hw) (wd40 hw) rfl (g := (mkF m 106 #[.val (.int p1), .val (.long p2), .second, .val (.int p3), .val (.int p4), .val (.int (2 : Int32)), .val (.ref b199_0), .val (.ref w_VARCHAR), .val (.int (0 : Int32)), .val (.ref b202), .unset, .unset, .unset] [])) rfl (hb hby at_106) (by decide) (by decide)
      obtain ⟨b212, g212⟩ : ∃ z, z = T204.heap.size := ⟨_, rfl⟩
      rw [← g212] at A212 D212 st212
      have g_b212 : n0 ≤ b212 := (Nat.le_trans (Nat.le_trans (Nat.le_of_eq OL204.1.symm) OL204.2.1) (Nat.le_of_eq g212.symm))
      have sz_b212 : h0.size ≤ b212 := (Nat.le_trans KK204.1 (Nat.le_of_eq g212.symm))
      have KK212 : Keep h0 h212 [] := KK204.ext E212
      have OL212 := OL204.ext E212
      have F_value_b212 : Fld Z h212 b212 "com/example/rowforge/rowforge/Field$Constant" "value" "Ljava/lang/Object;" .null := D212 (Or.inr (wd46 hw)) (ty := (.object "java/lang/Object")) (by decide)
      have F_column_b212 : Fld Z h212 b212 "com/example/rowforge/rowforge/Field$Constant" "column" "Lcom/example/rowforge/rowforge/Column;" .null := D212 (Or.inr (wd48 hw)) (ty := (.object "com/example/rowforge/rowforge/Column")) (by decide)
      obtain ⟨_, _, ⟨T213, L213, k213, n213⟩, -, X213, ⟨Lc213, hQ213, l213, y213, z213⟩, st213⟩ := X212.specialBack hx (y := (⟨"com/example/rowforge/rowforge/Field$Constant", "<init>", "(Ljava/lang/Object;Lcom/example/rowforge/rowforge/Column;)V"⟩ : MethodName)) rfl hown203 (mvT hZ203 (wd41 hw)) (mvT hZ203 (wd42 hw)) (mvT hZ203 (wd43 hw)) (by decide) (backOf (W := 1) (rm4_1 l Z a0 hw [] b212 b199_0 b202 h212 n0 OL212 A212 F_value_b212 g_b212 F_column_b212) hZ203 (wd43 hw) (wd40 hw) (by decide) (by decide)) (g := (mkF m 114 #[.val (.int p1), .val (.long p2), .second, .val (.int p3), .val (.int p4), .val (.int (2 : Int32)), .val (.ref b199_0), .val (.ref w_VARCHAR), .val (.int (0 : Int32)), .val (.ref b202), .unset, .unset, .unset] [(.ref b202), (.ref b199_0), (.ref b212), (.ref b212)])) rfl (by rw [hml]; rfl) (Steps.refl _) (a := b212) (argsL := [(.ref b199_0), (.ref b202)]) (rest := [(.ref b212)]) (lenOf pd_2 rfl) rfl (by show 2 * 0 + _ ≤ _; exact Nat.le_of_eq rfl) (hb hby at_114) (fun _ _ => ⟨rfl, e212, (by decide : 6 + 0 ≤ _), (by decide : 49 + 0 ≤ _)⟩)
      dsimp only [Pt.U, Pt.locs, Pt.cells, Pt.slots] at X213 l213 y213 z213 st213 hQ213
      subst l213 y213 z213
      obtain ⟨rfl, Nq213, K213, u213_0, u213_1⟩ := hQ213
      have KK213 : Keep h0 T213.heap [] := KK212.trans K213 (allS (Or.inr sz_b212) all0)
      have OL213 := OL212.keep K213 (allS g_b212 all0)
      have N213 := Fr.app N204 Nq213
      obtain ⟨T214, h214, X214, e214, E214, A214, D214, -, st214⟩ := newO X213 hx hZ203 hown203 (wd49 hw) (wd50 hw) (wd51 hw) rfl (g := (mkF m 119 #[.val (.int p1), .val (.long p2), .second, .val (.int p3), .val (.int p4), .val (.int (2 : Int32)), .val (.ref b199_0), .val (.ref w_VARCHAR), .val (.int (0 : Int32)), .val (.ref b202), .val (.ref b212), .unset, .unset] [])) rfl (hb hby at_119) (by decide) (by decide)
      obtain ⟨b214, g214⟩ : ∃ z, z = T213.heap.size := ⟨_, rfl⟩
      rw [← g214] at A214 D214 st214
      have g_b214 : n0 ≤ b214 := (Nat.le_trans (Nat.le_trans (Nat.le_of_eq OL213.1.symm) OL213.2.1) (Nat.le_of_eq g214.symm))
      have sz_b214 : h0.size ≤ b214 := (Nat.le_trans KK213.1 (Nat.le_of_eq g214.symm))
      have KK214 : Keep h0 h214 [] := KK213.ext E214
      have OL214 := OL213.ext E214
      have F_modCount_b214 : Fld Z h214 b214 "java/util/AbstractList" "modCount" "I" (.int (0 : Int32)) := D214 (Or.inl (wd69 hw)) (ty := .int) (by decide)
      have F_elementData_b214 : Fld Z h214 b214 "java/util/ArrayList" "elementData" "[Ljava/lang/Object;" .null := D214 (Or.inl (wd72 hw)) (ty := (.array (.object "java/lang/Object"))) (by decide)
      obtain ⟨_, _, ⟨T215, L215, k215, n215⟩, -, X215, ⟨Lc215, hQ215, l215, y215, z215⟩, st215⟩ := X214.specialBack hx (y := (⟨"java/util/ArrayList", "<init>", "()V"⟩ : MethodName)) rfl hown203 (mvT hZ203 (wd52 hw)) (mvT hZ203 (wd53 hw)) (mvT hZ203 (wd54 hw)) (by decide) (backOf (W := 1) (rm5_0 l Z a0 hw [] b214 w_DEFAULTCAPACITY_EMPTY_ELEMENTDATA h214 n0 OL214 A214 F_modCount_b214 g_b214 F_elementData_b214 pr5) hZ203 (wd54 hw) (wd51 hw) (by decide) (by decide)) (g := (mkF m 123 #[.val (.int p1), .val (.long p2), .second, .val (.int p3), .val (.int p4), .val (.int (2 : Int32)), .val (.ref b199_0), .val (.ref w_VARCHAR), .val (.int (0 : Int32)), .val (.ref b202), .val (.ref b212), .unset, .unset] [(.ref b214), (.ref b214)])) rfl (by rw [hml]; rfl) (Steps.refl _) (a := b214) (argsL := []) (rest := [(.ref b214)]) (lenOf pd_0 rfl) rfl (by show 2 * 0 + _ ≤ _; exact Nat.le_of_eq rfl) (hb hby at_123) (fun _ _ => ⟨rfl, e214, (by decide : 7 + 0 ≤ _), (by decide : 52 + 0 ≤ _)⟩)
      dsimp only [Pt.U, Pt.locs, Pt.cells, Pt.slots] at X215 l215 y215 z215 st215 hQ215
      subst l215 y215 z215
      obtain ⟨rfl, Nq215, K215, u215_0, u215_1⟩ := hQ215
      have KK215 : Keep h0 T215.heap [] := KK214.trans K215 (allS (Or.inr sz_b214) all0)
      have OL215 := OL214.keep K215 (allS g_b214 all0)
      have N215 := Fr.app N213 Nq215
      have fc217 := ((u213_0.ext E214).keep K215 (ninS (Nat.ne_of_lt (Nat.lt_of_lt_of_le u213_1.lt (Nat.le_of_eq g214.symm))) nin0))
      have fc218 := (((A212.keep K213).ext E214).keep K215)
      obtain ⟨cq216, kq216, q216a, q216b, q216c⟩ := isOf hZ203 rfl fc218
      obtain ⟨_, _, ⟨T216, L216, k216, n216⟩, -, X216, ⟨Lc216, hQ216, l216, y216, z216⟩, st216⟩ := X215.virtualBack hx (y := (⟨"com/example/rowforge/rowforge/Field$Constant", "nullable", "()Z"⟩ : MethodName)) (z := (⟨"com/example/rowforge/rowforge/Field$Constant", "nullable", "()Z"⟩ : MethodName)) hown203 (mvT hZ203 (wd73 hw)) (mvT hZ203 (wd74 hw)) (notFace_of_selects (args := #[]) (mvT hZ203 (wd76 hw))) (mvT hZ203 (wd76 hw)) (mvT hZ203 (wd75 hw)) (by decide) (backOf (W := 0) (rm8_1 l Z a0 hw [] b212 b199_0 T215.heap n0 OL215 fc217) hZ203 (wd77 hw) (wd40 hw) (by decide) (by decide)) q216a q216c (g := (mkF m 130 #[.val (.int p1), .val (.long p2), .second, .val (.int p3), .val (.int p4), .val (.int (2 : Int32)), .val (.ref b199_0), .val (.ref w_VARCHAR), .val (.int (0 : Int32)), .val (.ref b202), .val (.ref b212), .val (.ref b214), .unset] [(.ref b212)])) rfl (by rw [hml]; rfl) (Steps.refl _) (argsL := []) (rest := []) (lenOf pd_3 rfl) rfl (by show 2 * 0 + _ ≤ _; exact Nat.le_of_eq rfl) (hb hby at_130) (fun _ _ => ⟨rfl, rfl, (by decide : 7 + 0 ≤ _), (by decide : 52 + 0 ≤ _)⟩)
      dsimp only [Pt.U, Pt.locs, Pt.cells, Pt.slots] at X216 l216 y216 z216 st216 hQ216
      subst l216 y216 z216
      obtain ⟨rfl, Nq216, ec216⟩ := hQ216
      have N216 := Fr.app N215 Nq216
      obtain ⟨cq219, kq219, q219a, q219b, q219c⟩ := isOf hZ203 ec216 fc218
      obtain ⟨_, _, ⟨T219, L219, k219, n219⟩, -, X219, ⟨Lc219, hQ219, l219, y219, z219⟩, st219⟩ := X216.virtualBack hx (y := (⟨"com/example/rowforge/rowforge/Field$Constant", "value", "(Ljava/util/List;)Ljava/lang/Object;"⟩ : MethodName)) (z := (⟨"com/example/rowforge/rowforge/Field$Constant", "value", "(Ljava/util/List;)Ljava/lang/Object;"⟩ : MethodName)) hown203 (mvT hZ203 (wd78 hw)) (mvT hZ203 (wd79 hw)) (notFace_of_selects (args := #[]) (mvT hZ203 (wd81 hw))) (mvT hZ203 (wd81 hw)) (mvT hZ203 (wd80 hw)) (by decide) (backOf (W := 1) (rm9_1 l Z a0 hw [] b212 b214 b199_0 T215.heap n0 OL215 fc217) hZ203 (wd82 hw) (wd40 hw) (by decide) (by decide)) q219a q219c (g := (mkF m 156 #[.val (.int p1), .val (.long p2), .second, .val (.int p3), .val (.int p4), .val (.int (2 : Int32)), .val (.ref b199_0), .val (.ref w_VARCHAR), .val (.int (0 : Int32)), .val (.ref b202), .val (.ref b212), .val (.ref b214), .val (.int (0 : Int32))] [(.ref b214), (.ref b212), (.int (0 : Int32))])) rfl (by rw [hml]; rfl) (Steps.refl _) (argsL := [(.ref b214)]) (rest := [(.int (0 : Int32))]) (lenOf pd_4 rfl) rfl (by show 2 * 0 + _ ≤ _; exact Nat.le_of_eq rfl) (hb hby at_156) (fun _ _ => ⟨rfl, ec216, (by decide : 7 + 0 ≤ _), (by decide : 52 + 0 ≤ _)⟩)
      dsimp only [Pt.U, Pt.locs, Pt.cells, Pt.slots] at X219 l219 y219 z219 st219 hQ219
      subst l219 y219 z219
      obtain ⟨rfl, Nq219, ec219⟩ := hQ219
      have N219 := Fr.app N216 Nq219
      obtain ⟨fs, hr, hrun, hended, hRW⟩ := X219.leaveW (s := s) hS203 (by rw [ec219]; exact (Nat.le_trans (Nat.le_trans (Nat.le_trans (Nat.le_trans (Nat.le_trans hk203 K204.1) E212.1) K213.1) E214.1) K215.1)) (v := some (.int (1 : Int32))) (fun h => by rw [Bd.returns] at h; cases h)
      refine ⟨_, _, pre201 _ ?_, hrun, hended, _, _, rfl, ⟨rfl, N219⟩, hRW.1, hRW.2.1, hRW.2.2.1, hRW.2.2.2.mono (by decide) (by decide)⟩
      show Steps p.tables e below (T200.setTop (mkF m 77 #[.val (.int p1), .val (.long p2), .second, .val (.int p3), .val (.int p4), .val (.int (2 : Int32)), .val (.ref b199_0), .val (.ref w_VARCHAR), .unset, .unset, .unset, .unset, .unset] [(.int y3)])) _
      refine XS.ifYes X200.here hx rfl (pc0 := 77) (pc' := 84) rfl (hb hby at_77) rfl ((if0 _ _).trans (teq hf201).1) (by decide) (by decide) ?_
      show Steps p.tables e below (T200.setTop (mkF m 84 #[.val (.int p1), .val (.long p2), .second, .val (.int p3), .val (.int p4), .val (.int (2 : Int32)), .val (.ref b199_0), .val (.ref w_VARCHAR), .unset, .unset, .unset, .unset, .unset] [])) _
      refine XS.iconst X200.here hx rfl (hb hby at_84) ?_
      refine XS.istore X200.here hx rfl (hb hby at_85) rfl (l' := #[.val (.int p1), .val (.long p2), .second, .val (.int p3), .val (.int p4), .val (.int (2 : Int32)), .val (.ref b199_0), .val (.ref w_VARCHAR), .val (.int (0 : Int32)), .unset, .unset, .unset, .unset]) rfl ?_
      show Steps p.tables e below (T200.setTop (mkF m 87 #[.val (.int p1), .val (.long p2), .second, .val (.int p3), .val (.int p4), .val (.int (2 : Int32)), .val (.ref b199_0), .val (.ref w_VARCHAR), .val (.int (0 : Int32)), .unset, .unset, .unset, .unset] [])) _
      refine st202 _ ?_
      show Steps p.tables e below (T202.setTop (mkF m 90 #[.val (.int p1), .val (.long p2), .second, .val (.int p3), .val (.int p4), .val (.int (2 : Int32)), .val (.ref b199_0), .val (.ref w_VARCHAR), .val (.int (0 : Int32)), .unset, .unset, .unset, .unset] [(.ref b202)])) _
      refine XS.dup X202.here hx rfl (hb hby at_90) rfl rfl ?_
      refine st203 _ ?_
      refine XS.iconst X203.here hx rfl (hb hby at_93) ?_
      refine XS.aload X203.here hx rfl (hb hby at_94) rfl rfl ?_
      show Steps p.tables e below (T203.setTop (mkF m 96 #[.val (.int p1), .val (.long p2), .second, .val (.int p3), .val (.int p4), .val (.int (2 : Int32)), .val (.ref b199_0), .val (.ref w_VARCHAR), .val (.int (0 : Int32)), .unset, .unset, .unset, .unset] [(.ref w_VARCHAR), (.int (-1 : Int32)), (.ref b203), (.ref b202), (.ref b202)])) _
      refine X203.ldcInt hx hown203 (mvT hZ203 (wd0 hw)) (g := (mkF m 96 #[.val (.int p1), .val (.long p2), .second, .val (.int p3), .val (.int p4), .val (.int (2 : Int32)), .val (.ref b199_0), .val (.ref w_VARCHAR), .val (.int (0 : Int32)), .unset, .unset, .unset, .unset] [(.ref w_VARCHAR), (.int (-1 : Int32)), (.ref b203), (.ref b202), (.ref b202)])) rfl (hb hby at_96) _ ?_
      refine XS.iconst X203.here hx rfl (hb hby at_98) ?_
      refine XS.iload X203.here hx rfl (hb hby at_99) rfl ?_
      show Steps p.tables e below (T203.setTop (mkF m 101 #[.val (.int p1), .val (.long p2), .second, .val (.int p3), .val (.int p4), .val (.int (2 : Int32)), .val (.ref b199_0), .val (.ref w_VARCHAR), .val (.int (0 : Int32)), .unset, .unset, .unset, .unset] [(.int (0 : Int32)), (.int (0 : Int32)), (.int (2147483647 : Int32)), (.ref w_VARCHAR), (.int (-1 : Int32)), (.ref b203), (.ref b202), (.ref b202)])) _
      refine st204.trans ?_
      show Steps p.tables e below (T204.setTop (mkF m 104 #[.val (.int p1), .val (.long p2), .second, .val (.int p3), .val (.int p4), .val (.int (2 : Int32)), .val (.ref b199_0), .val (.ref w_VARCHAR), .val (.int (0 : Int32)), .unset, .unset, .unset, .unset] [(.ref b202)])) _
      refine XS.astore X204.here hx rfl (hb hby at_104) rfl rfl (l' := #[.val (.int p1), .val (.long p2), .second, .val (.int p3), .val (.int p4), .val (.int (2 : Int32)), .val (.ref b199_0), .val (.ref w_VARCHAR), .val (.int (0 : Int32)), .val (.ref b202), .unset, .unset, .unset]) rfl ?_
      show Steps p.tables e below (T204.setTop (mkF m 106 #[.val (.int p1), .val (.long p2), .second, .val (.int p3), .val (.int p4), .val (.int (2 : Int32)), .val (.ref b199_0), .val (.ref w_VARCHAR), .val (.int (0 : Int32)), .val (.ref b202), .unset, .unset, .unset] [])) _
      refine st212 _ ?_
      show Steps p.tables e below (T212.setTop (mkF m 109 #[.val (.int p1), .val (.long p2), .second, .val (.int p3), .val (.int p4), .val (.int (2 : Int32)), .val (.ref b199_0), .val (.ref w_VARCHAR), .val (.int (0 : Int32)), .val (.ref b202), .unset, .unset, .unset] [(.ref b212)])) _
      refine XS.dup X212.here hx rfl (hb hby at_109) rfl rfl ?_
      refine XS.aload X212.here hx rfl (hb hby at_110) rfl rfl ?_
      refine XS.aload X212.here hx rfl (hb hby at_112) rfl rfl ?_
      show Steps p.tables e below (T212.setTop (mkF m 114 #[.val (.int p1), .val (.long p2), .second, .val (.int p3), .val (.int p4), .val (.int (2 : Int32)), .val (.ref b199_0), .val (.ref w_VARCHAR), .val (.int (0 : Int32)), .val (.ref b202), .unset, .unset, .unset] [(.ref b202), (.ref b199_0), (.ref b212), (.ref b212)])) _
      refine st213.trans ?_
      show Steps p.tables e below (T213.setTop (mkF m 117 #[.val (.int p1), .val (.long p2), .second, .val (.int p3), .val (.int p4), .val (.int (2 : Int32)), .val (.ref b199_0), .val (.ref w_VARCHAR), .val (.int (0 : Int32)), .val (.ref b202), .unset, .unset, .unset] [(.ref b212)])) _
      refine XS.astore X213.here hx rfl (hb hby at_117) rfl rfl (l' := #[.val (.int p1), .val (.long p2), .second, .val (.int p3), .val (.int p4), .val (.int (2 : Int32)), .val (.ref b199_0), .val (.ref w_VARCHAR), .val (.int (0 : Int32)), .val (.ref b202), .val (.ref b212), .unset, .unset]) rfl ?_
      show Steps p.tables e below (T213.setTop (mkF m 119 #[.val (.int p1), .val (.long p2), .second, .val (.int p3), .val (.int p4), .val (.int (2 : Int32)), .val (.ref b199_0), .val (.ref w_VARCHAR), .val (.int (0 : Int32)), .val (.ref b202), .val (.ref b212), .unset, .unset] [])) _
      refine st214 _ ?_
      show Steps p.tables e below (T214.setTop (mkF m 122 #[.val (.int p1), .val (.long p2), .second, .val (.int p3), .val (.int p4), .val (.int (2 : Int32)), .val (.ref b199_0), .val (.ref w_VARCHAR), .val (.int (0 : Int32)), .val (.ref b202), .val (.ref b212), .unset, .unset] [(.ref b214)])) _
      refine XS.dup X214.here hx rfl (hb hby at_122) rfl rfl ?_
      show Steps p.tables e below (T214.setTop (mkF m 123 #[.val (.int p1), .val (.long p2), .second, .val (.int p3), .val (.int p4), .val (.int (2 : Int32)), .val (.ref b199_0), .val (.ref w_VARCHAR), .val (.int (0 : Int32)), .val (.ref b202), .val (.ref b212), .unset, .unset] [(.ref b214), (.ref b214)])) _
      refine st215.trans ?_
      show Steps p.tables e below (T215.setTop (mkF m 126 #[.val (.int p1), .val (.long p2), .second, .val (.int p3), .val (.int p4), .val (.int (2 : Int32)), .val (.ref b199_0), .val (.ref w_VARCHAR), .val (.int (0 : Int32)), .val (.ref b202), .val (.ref b212), .unset, .unset] [(.ref b214)])) _
      refine XS.astore X215.here hx rfl (hb hby at_126) rfl rfl (l' := #[.val (.int p1), .val (.long p2), .second, .val (.int p3), .val (.int p4), .val (.int (2 : Int32)), .val (.ref b199_0), .val (.ref w_VARCHAR), .val (.int (0 : Int32)), .val (.ref b202), .val (.ref b212), .val (.ref b214), .unset]) rfl ?_
      refine XS.aload X215.here hx rfl (hb hby at_128) rfl rfl ?_
      show Steps p.tables e below (T215.setTop (mkF m 130 #[.val (.int p1), .val (.long p2), .second, .val (.int p3), .val (.int p4), .val (.int (2 : Int32)), .val (.ref b199_0), .val (.ref w_VARCHAR), .val (.int (0 : Int32)), .val (.ref b202), .val (.ref b212), .val (.ref b214), .unset] [(.ref b212)])) _
      refine st216.trans ?_
      show Steps p.tables e below (T216.setTop (mkF m 133 #[.val (.int p1), .val (.long p2), .second, .val (.int p3), .val (.int p4), .val (.int (2 : Int32)), .val (.ref b199_0), .val (.ref w_VARCHAR), .val (.int (0 : Int32)), .val (.ref b202), .val (.ref b212), .val (.ref b214), .unset] [(.int (0 : Int32))])) _
      refine XS.istore X216.here hx rfl (hb hby at_133) rfl (l' := #[.val (.int p1), .val (.long p2), .second, .val (.int p3), .val (.int p4), .val (.int (2 : Int32)), .val (.ref b199_0), .val (.ref w_VARCHAR), .val (.int (0 : Int32)), .val (.ref b202), .val (.ref b212), .val (.ref b214), .val (.int (0 : Int32))]) rfl ?_
      refine XS.iload X216.here hx rfl (hb hby at_135) rfl ?_
      refine XS.iload X216.here hx rfl (hb hby at_137) rfl ?_
      show Steps p.tables e below (T216.setTop (mkF m 139 #[.val (.int p1), .val (.long p2), .second, .val (.int p3), .val (.int p4), .val (.int (2 : Int32)), .val (.ref b199_0), .val (.ref w_VARCHAR), .val (.int (0 : Int32)), .val (.ref b202), .val (.ref b212), .val (.ref b214), .val (.int (0 : Int32))] [(.int (2 : Int32)), (.int (0 : Int32))])) _
      refine XS.ifYes X216.here hx rfl (pc0 := 139) (pc' := 146) rfl (hb hby at_139) rfl ((if0 _ _).trans (feq (by decide : ¬ ((2 : Int32) = (0 : Int32)))).2) (by decide) (by decide) ?_
      show Steps p.tables e below (T216.setTop (mkF m 146 #[.val (.int p1), .val (.long p2), .second, .val (.int p3), .val (.int p4), .val (.int (2 : Int32)), .val (.ref b199_0), .val (.ref w_VARCHAR), .val (.int (0 : Int32)), .val (.ref b202), .val (.ref b212), .val (.ref b214), .val (.int (0 : Int32))] [(.int (0 : Int32))])) _
      refine XS.iconst X216.here hx rfl (hb hby at_146) ?_
      show Steps p.tables e below (T216.setTop (mkF m 147 #[.val (.int p1), .val (.long p2), .second, .val (.int p3), .val (.int p4), .val (.int (2 : Int32)), .val (.ref b199_0), .val (.ref w_VARCHAR), .val (.int (0 : Int32)), .val (.ref b202), .val (.ref b212), .val (.ref b214), .val (.int (0 : Int32))] [(.int (0 : Int32)), (.int (0 : Int32))])) _
      refine XS.icmpNo X216.here hx rfl (hb hby at_147) rfl (teq (rfl : (0 : Int32) = (0 : Int32))).2 ?_
      show Steps p.tables e below (T216.setTop (mkF m 150 #[.val (.int p1), .val (.long p2), .second, .val (.int p3), .val (.int p4), .val (.int (2 : Int32)), .val (.ref b199_0), .val (.ref w_VARCHAR), .val (.int (0 : Int32)), .val (.ref b202), .val (.ref b212), .val (.ref b214), .val (.int (0 : Int32))] [])) _
      refine XS.iload X216.here hx rfl (hb hby at_150) rfl ?_
      refine XS.aload X216.here hx rfl (hb hby at_152) rfl rfl ?_
      refine XS.aload X216.here hx rfl (hb hby at_154) rfl rfl ?_
      show Steps p.tables e below (T216.setTop (mkF m 156 #[.val (.int p1), .val (.long p2), .second, .val (.int p3), .val (.int p4), .val (.int (2 : Int32)), .val (.ref b199_0), .val (.ref w_VARCHAR), .val (.int (0 : Int32)), .val (.ref b202), .val (.ref b212), .val (.ref b214), .val (.int (0 : Int32))] [(.ref b214), (.ref b212), (.int (0 : Int32))])) _
      refine st219.trans ?_
      show Steps p.tables e below (T219.setTop (mkF m 159 #[.val (.int p1), .val (.long p2), .second, .val (.int p3), .val (.int p4), .val (.int (2 : Int32)), .val (.ref b199_0), .val (.ref w_VARCHAR), .val (.int (0 : Int32)), .val (.ref b202), .val (.ref b212), .val (.ref b214), .val (.int (0 : Int32))] [(.ref b199_0), (.int (0 : Int32))])) _
      refine XS.ifnonnullYes X219.here hx rfl (pc0 := 159) (pc' := 166) rfl (hb hby at_159) rfl (by decide) (by decide) ?_
      show Steps p.tables e below (T219.setTop (mkF m 166 #[.val (.int p1), .val (.long p2), .second, .val (.int p3), .val (.int p4), .val (.int (2 : Int32)), .val (.ref b199_0), .val (.ref w_VARCHAR), .val (.int (0 : Int32)), .val (.ref b202), .val (.ref b212), .val (.ref b214), .val (.int (0 : Int32))] [(.int (0 : Int32))])) _
      refine XS.iconst X219.here hx rfl (hb hby at_166) ?_
      show Steps p.tables e below (T219.setTop (mkF m 167 #[.val (.int p1), .val (.long p2), .second, .val (.int p3), .val (.int p4), .val (.int (2 : Int32)), .val (.ref b199_0), .val (.ref w_VARCHAR), .val (.int (0 : Int32)), .val (.ref b202), .val (.ref b212), .val (.ref b214), .val (.int (0 : Int32))] [(.int (0 : Int32)), (.int (0 : Int32))])) _
      refine XS.icmpNo X219.here hx rfl (hb hby at_167) rfl (teq (rfl : (0 : Int32) = (0 : Int32))).2 ?_
      show Steps p.tables e below (T219.setTop (mkF m 170 #[.val (.int p1), .val (.long p2), .second, .val (.int p3), .val (.int p4), .val (.int (2 : Int32)), .val (.ref b199_0), .val (.ref w_VARCHAR), .val (.int (0 : Int32)), .val (.ref b202), .val (.ref b212), .val (.ref b214), .val (.int (0 : Int32))] [])) _
      refine XS.iconst X219.here hx rfl (hb hby at_170) ?_
      refine XS.goto X219.here hx rfl (pc0 := 171) (pc' := 175) rfl (hb hby at_171) (by decide) (by decide) ?_
      show Steps p.tables e below (T219.setTop (mkF m 175 #[.val (.int p1), .val (.long p2), .second, .val (.int p3), .val (.int p4), .val (.int (2 : Int32)), .val (.ref b199_0), .val (.ref w_VARCHAR), .val (.int (0 : Int32)), .val (.ref b202), .val (.ref b212), .val (.ref b214), .val (.int (0 : Int32))] [(.int (1 : Int32))])) _
      exact retN X219 hx (t := .boolean) Bd.returns (by simp) (hb hby at_175) hr
    · obtain ⟨T220, h220, X220, e220, E220, A220, D220, -, st220⟩ := newO X200 hx hZ hown (wd4 hw) (wd5 hw) (wd6 hw) e200 (g := (mkF m 87 #[.val (.int p1), .val (.long p2), .second, .val (.int p3), .val (.int p4), .val (.int (2 : Int32)), .val (.ref b199_0), .val (.ref w_VARCHAR), .val (.int (1 : Int32)), .unset, .unset, .unset, .unset] [])) rfl (hb hby at_87) (by decide) (by decide)
      obtain ⟨b220, g220⟩ : ∃ z, z = T199.heap.size := ⟨_, rfl⟩
      rw [← g220] at A220 D220 st220
      have g_b220 : n0 ≤ b220 := (Nat.le_trans (Nat.le_trans (Nat.le_of_eq OL199.1.symm) OL199.2.1) (Nat.le_of_eq g220.symm))
      have sz_b220 : h0.size ≤ b220 := (Nat.le_trans KK199.1 (Nat.le_of_eq g220.symm))
      have KK220 : Keep h0 h220 [] := KK199.ext E220
      have OL220 := OL199.ext E220
      have F_name_b220 : Fld Z h220 b220 "com/example/rowforge/rowforge/Column" "name" "Ljava/lang/String;" .null := D220 (Or.inr (wd27 hw)) (ty := (.object "java/lang/String")) (by decide)
      have F_position_b220 : Fld Z h220 b220 "com/example/rowforge/rowforge/Column" "position" "I" (.int (0 : Int32)) := D220 (Or.inr (wd29 hw)) (ty := .int) (by decide)
      have F_type_b220 : Fld Z h220 b220 "com/example/rowforge/rowforge/Column" "type" "Lcom/example/rowforge/rowforge/SqlType;" .null := D220 (Or.inr (wd31 hw)) (ty := (.object "com/example/rowforge/rowforge/SqlType")) (by decide)
      have F_length_b220 : Fld Z h220 b220 "com/example/rowforge/rowforge/Column" "length" "I" (.int (0 : Int32)) := D220 (Or.inr (wd33 hw)) (ty := .int) (by decide)
      have F_scale_b220 : Fld Z h220 b220 "com/example/rowforge/rowforge/Column" "scale" "I" (.int (0 : Int32)) := D220 (Or.inr (wd35 hw)) (ty := .int) (by decide)
      have F_nullable_b220 : Fld Z h220 b220 "com/example/rowforge/rowforge/Column" "nullable" "Z" (.int (0 : Int32)) := D220 (Or.inr (wd37 hw)) (ty := .boolean) (by decide)
      obtain ⟨b221, T221, h221, k221, X221, e221, E221, hS221, hk221, hZ221, hown221, st221⟩ := ldcS (s := s) (vm0 := s.vm) X220 hx hZ hown (wd7 hw) (own_wS hw) e220 ((State.WarmedH.refl s).since 0) (Nat.le_trans (Nat.le_trans (Nat.zero_le _) K199.1) E220.1) (g := (mkF m 91 #[.val (.int p1), .val (.long p2), .second, .val (.int p3), .val (.int p4), .val (.int (2 : Int32)), .val (.ref b199_0), .val (.ref w_VARCHAR), .val (.int (1 : Int32)), .unset, .unset, .unset, .unset] [(.ref b220), (.ref b220)])) rfl (hb hby at_91) (n := 32) (by decide) (by decide) (by decide) (by decide)
      have KK221 : Keep h0 h221 [] := KK220.ext E221
      have OL221 := OL220.ext E221
      have fc223 := (A220.ext E221)
      have fc224 := (F_name_b220.ext E221)
      have fc225 := (F_position_b220.ext E221)
      have fc226 := (F_type_b220.ext E221)
      have fc227 := (F_length_b220.ext E221)
      have fc228 := (F_scale_b220.ext E221)
      have fc229 := (F_nullable_b220.ext E221)
      obtain ⟨_, _, ⟨T222, L222, k222, n222⟩, -, X222, ⟨Lc222, hQ222, l222, y222, z222⟩, st222⟩ := X221.specialBack hx (y := (⟨"com/example/rowforge/rowforge/Column", "<init>", "(Ljava/lang/String;ILcom/example/rowforge/rowforge/SqlType;IIZ)V"⟩ : MethodName)) rfl hown221 (mvT hZ221 (wd15 hw)) (mvT hZ221 (wd16 hw)) (mvT hZ221 (wd17 hw)) (by decide) (backOf (W := 1) (rm1_1 l Z a0 hw [] b220 b221 w_VARCHAR h221 n0 OL221 fc223 fc224 g_b220 fc225 fc226 fc227 fc228 fc229) hZ221 (wd17 hw) (wd6 hw) (by decide) (by decide)) (g := (mkF m 101 #[.val (.int p1), .val (.long p2), .second, .val (.int p3), .val (.int p4), .val (.int (2 : Int32)), .val (.ref b199_0), .val (.ref w_VARCHAR), .val (.int (1 : Int32)), .unset, .unset, .unset, .unset] [(.int (1 : Int32)), (.int (0 : Int32)), (.int (2147483647 : Int32)), (.ref w_VARCHAR), (.int (-1 : Int32)), (.ref b221), (.ref b220), (.ref b220)])) rfl (by rw [hml]; rfl) (Steps.refl _) (a := b220) (argsL := [(.ref b221), (.int (-1 : Int32)), (.ref w_VARCHAR), (.int (2147483647 : Int32)), (.int (0 : Int32)), (.int (1 : Int32))]) (rest := [(.ref b220)]) (lenOf pd_1 rfl) rfl (by show 2 * 0 + _ ≤ _; exact Nat.le_of_eq rfl) (hb hby at_101) (fun _ _ => ⟨rfl, e221, (by decide : 5 + 0 ≤ _), (by decide : 47 + 0 ≤ _)⟩)
      dsimp only [Pt.U, Pt.locs, Pt.cells, Pt.slots] at X222 l222 y222 z222 st222 hQ222
      subst l222 y222 z222
      obtain ⟨rfl, Nq222, K222, u222_0, u222_1, u222_2, u222_3, u222_4, u222_5⟩ := hQ222
      have KK222 : Keep h0 T222.heap [] := KK221.trans K222 (allS (Or.inr sz_b220) all0)
      have OL222 := OL221.keep K222 (allS g_b220 all0)
      have N222 := Fr.app N199 Nq222
      obtain ⟨T230, h230, X230, e230, E230, A230, D230, -, st230⟩ := newO X222 hx hZ221 hown221 (wd38 hw) (wd39 hw) (wd40 hw) rfl (g := (mkF m 106 #[.val (.int p1), .val (.long p2), .second, .val (.int p3), .val (.int p4), .val (.int (2 : Int32)), .val (.ref b199_0), .val (.ref w_VARCHAR), .val (.int (1 : Int32)), .val (.ref b220), .unset, .unset, .unset] [])) rfl (hb hby at_106) (by decide) (by decide)
      obtain ⟨b230, g230⟩ : ∃ z, z = T222.heap.size := ⟨_, rfl⟩
      rw [← g230] at A230 D230 st230
      have g_b230 : n0 ≤ b230 := (Nat.le_trans (Nat.le_trans (Nat.le_of_eq OL222.1.symm) OL222.2.1) (Nat.le_of_eq g230.symm))
      have sz_b230 : h0.size ≤ b230 := (Nat.le_trans KK222.1 (Nat.le_of_eq g230.symm))
      have KK230 : Keep h0 h230 [] := KK222.ext E230
      have OL230 := OL222.ext E230
      have F_value_b230 : Fld Z h230 b230 "com/example/rowforge/rowforge/Field$Constant" "value" "Ljava/lang/Object;" .null := D230 (Or.inr (wd46 hw)) (ty := (.object "java/lang/Object")) (by decide)
      have F_column_b230 : Fld Z h230 b230 "com/example/rowforge/rowforge/Field$Constant" "column" "Lcom/example/rowforge/rowforge/Column;" .null := D230 (Or.inr (wd48 hw)) (ty := (.object "com/example/rowforge/rowforge/Column")) (by decide)
      obtain ⟨_, _, ⟨T231, L231, k231, n231⟩, -, X231, ⟨Lc231, hQ231, l231, y231, z231⟩, st231⟩ := X230.specialBack hx (y := (⟨"com/example/rowforge/rowforge/Field$Constant", "<init>", "(Ljava/lang/Object;Lcom/example/rowforge/rowforge/Column;)V"⟩ : MethodName)) rfl hown221 (mvT hZ221 (wd41 hw)) (mvT hZ221 (wd42 hw)) (mvT hZ221 (wd43 hw)) (by decide) (backOf (W := 1) (rm4_1 l Z a0 hw [] b230 b199_0 b220 h230 n0 OL230 A230 F_value_b230 g_b230 F_column_b230) hZ221 (wd43 hw) (wd40 hw) (by decide) (by decide)) (g := (mkF m 114 #[.val (.int p1), .val (.long p2), .second, .val (.int p3), .val (.int p4), .val (.int (2 : Int32)), .val (.ref b199_0), .val (.ref w_VARCHAR), .val (.int (1 : Int32)), .val (.ref b220), .unset, .unset, .unset] [(.ref b220), (.ref b199_0), (.ref b230), (.ref b230)])) rfl (by rw [hml]; rfl) (Steps.refl _) (a := b230) (argsL := [(.ref b199_0), (.ref b220)]) (rest := [(.ref b230)]) (lenOf pd_2 rfl) rfl (by show 2 * 0 + _ ≤ _; exact Nat.le_of_eq rfl) (hb hby at_114) (fun _ _ => ⟨rfl, e230, (by decide : 6 + 0 ≤ _), (by decide : 49 + 0 ≤ _)⟩)
      dsimp only [Pt.U, Pt.locs, Pt.cells, Pt.slots] at X231 l231 y231 z231 st231 hQ231
      subst l231 y231 z231
      obtain ⟨rfl, Nq231, K231, u231_0, u231_1⟩ := hQ231
      have KK231 : Keep h0 T231.heap [] := KK230.trans K231 (allS (Or.inr sz_b230) all0)
      have OL231 := OL230.keep K231 (allS g_b230 all0)
      have N231 := Fr.app N222 Nq231
      obtain ⟨T232, h232, X232, e232, E232, A232, D232, -, st232⟩ := newO X231 hx hZ221 hown221 (wd49 hw) (wd50 hw) (wd51 hw) rfl (g := (mkF m 119 #[.val (.int p1), .val (.long p2), .second, .val (.int p3), .val (.int p4), .val (.int (2 : Int32)), .val (.ref b199_0), .val (.ref w_VARCHAR), .val (.int (1 : Int32)), .val (.ref b220), .val (.ref b230), .unset, .unset] [])) rfl (hb hby at_119) (by decide) (by decide)
      obtain ⟨b232, g232⟩ : ∃ z, z = T231.heap.size := ⟨_, rfl⟩
      rw [← g232] at A232 D232 st232
      have g_b232 : n0 ≤ b232 := (Nat.le_trans (Nat.le_trans (Nat.le_of_eq OL231.1.symm) OL231.2.1) (Nat.le_of_eq g232.symm))
      have sz_b232 : h0.size ≤ b232 := (Nat.le_trans KK231.1 (Nat.le_of_eq g232.symm))
      have KK232 : Keep h0 h232 [] := KK231.ext E232
      have OL232 := OL231.ext E232
      have F_modCount_b232 : Fld Z h232 b232 "java/util/AbstractList" "modCount" "I" (.int (0 : Int32)) := D232 (Or.inl (wd69 hw)) (ty := .int) (by decide)
      have F_elementData_b232 : Fld Z h232 b232 "java/util/ArrayList" "elementData" "[Ljava/lang/Object;" .null := D232 (Or.inl (wd72 hw)) (ty := (.array (.object "java/lang/Object"))) (by decide)
      obtain ⟨_, _, ⟨T233, L233, k233, n233⟩, -, X233, ⟨Lc233, hQ233, l233, y233, z233⟩, st233⟩ := X232.specialBack hx (y := (⟨"java/util/ArrayList", "<init>", "()V"⟩ : MethodName)) rfl hown221 (mvT hZ221 (wd52 hw)) (mvT hZ221 (wd53 hw)) (mvT hZ221 (wd54 hw)) (by decide) (backOf (W := 1) (rm5_0 l Z a0 hw [] b232 w_DEFAULTCAPACITY_EMPTY_ELEMENTDATA h232 n0 OL232 A232 F_modCount_b232 g_b232 F_elementData_b232 pr5) hZ221 (wd54 hw) (wd51 hw) (by decide) (by decide)) (g := (mkF m 123 #[.val (.int p1), .val (.long p2), .second, .val (.int p3), .val (.int p4), .val (.int (2 : Int32)), .val (.ref b199_0), .val (.ref w_VARCHAR), .val (.int (1 : Int32)), .val (.ref b220), .val (.ref b230), .unset, .unset] [(.ref b232), (.ref b232)])) rfl (by rw [hml]; rfl) (Steps.refl _) (a := b232) (argsL := []) (rest := [(.ref b232)]) (lenOf pd_0 rfl) rfl (by show 2 * 0 + _ ≤ _; exact Nat.le_of_eq rfl) (hb hby at_123) (fun _ _ => ⟨rfl, e232, (by decide : 7 + 0 ≤ _), (by decide : 52 + 0 ≤ _)⟩)
      dsimp only [Pt.U, Pt.locs, Pt.cells, Pt.slots] at X233 l233 y233 z233 st233 hQ233
      subst l233 y233 z233
      obtain ⟨rfl, Nq233, K233, u233_0, u233_1⟩ := hQ233
      have KK233 : Keep h0 T233.heap [] := KK232.trans K233 (allS (Or.inr sz_b232) all0)
      have OL233 := OL232.keep K233 (allS g_b232 all0)
      have N233 := Fr.app N231 Nq233
      have fc235 := ((u231_0.ext E232).keep K233 (ninS (Nat.ne_of_lt (Nat.lt_of_lt_of_le u231_1.lt (Nat.le_of_eq g232.symm))) nin0))
      have fc236 := (((A230.keep K231).ext E232).keep K233)
      obtain ⟨cq234, kq234, q234a, q234b, q234c⟩ := isOf hZ221 rfl fc236
      obtain ⟨_, _, ⟨T234, L234, k234, n234⟩, -, X234, ⟨Lc234, hQ234, l234, y234, z234⟩, st234⟩ := X233.virtualBack hx (y := (⟨"com/example/rowforge/rowforge/Field$Constant", "nullable", "()Z"⟩ : MethodName)) (z := (⟨"com/example/rowforge/rowforge/Field$Constant", "nullable", "()Z"⟩ : MethodName)) hown221 (mvT hZ221 (wd73 hw)) (mvT hZ221 (wd74 hw)) (notFace_of_selects (args := #[]) (mvT hZ221 (wd76 hw))) (mvT hZ221 (wd76 hw)) (mvT hZ221 (wd75 hw)) (by decide) (backOf (W := 0) (rm8_1 l Z a0 hw [] b230 b199_0 T233.heap n0 OL233 fc235) hZ221 (wd77 hw) (wd40 hw) (by decide) (by decide)) q234a q234c (g := (mkF m 130 #[.val (.int p1), .val (.long p2), .second, .val (.int p3), .val (.int p4), .val (.int (2 : Int32)), .val (.ref b199_0), .val (.ref w_VARCHAR), .val (.int (1 : Int32)), .val (.ref b220), .val (.ref b230), .val (.ref b232), .unset] [(.ref b230)])) rfl (by rw [hml]; rfl) (Steps.refl _) (argsL := []) (rest := []) (lenOf pd_3 rfl) rfl (by show 2 * 0 + _ ≤ _; exact Nat.le_of_eq rfl) (hb hby at_130) (fun _ _ => ⟨rfl, rfl, (by decide : 7 + 0 ≤ _), (by decide : 52 + 0 ≤ _)⟩)
      dsimp only [Pt.U, Pt.locs, Pt.cells, Pt.slots] at X234 l234 y234 z234 st234 hQ234
      subst l234 y234 z234
      obtain ⟨rfl, Nq234, ec234⟩ := hQ234
      have N234 := Fr.app N233 Nq234
      obtain ⟨cq237, kq237, q237a, q237b, q237c⟩ := isOf hZ221 ec234 fc236
      obtain ⟨_, _, ⟨T237, L237, k237, n237⟩, -, X237, ⟨Lc237, hQ237, l237, y237, z237⟩, st237⟩ := X234.virtualBack hx (y := (⟨"com/example/rowforge/rowforge/Field$Constant", "value", "(Ljava/util/List;)Ljava/lang/Object;"⟩ : MethodName)) (z := (⟨"com/example/rowforge/rowforge/Field$Constant", "value", "(Ljava/util/List;)Ljava/lang/Object;"⟩ : MethodName)) hown221 (mvT hZ221 (wd78 hw)) (mvT hZ221 (wd79 hw)) (notFace_of_selects (args := #[]) (mvT hZ221 (wd81 hw))) (mvT hZ221 (wd81 hw)) (mvT hZ221 (wd80 hw)) (by decide) (backOf (W := 1) (rm9_1 l Z a0 hw [] b230 b232 b199_0 T233.heap n0 OL233 fc235) hZ221 (wd82 hw) (wd40 hw) (by decide) (by decide)) q237a q237c (g := (mkF m 156 #[.val (.int p1), .val (.long p2), .second, .val (.int p3), .val (.int p4), .val (.int (2 : Int32)), .val (.ref b199_0), .val (.ref w_VARCHAR), .val (.int (1 : Int32)), .val (.ref b220), .val (.ref b230), .val (.ref b232), .val (.int (0 : Int32))] [(.ref b232), (.ref b230), (.int (0 : Int32))])) rfl (by rw [hml]; rfl) (Steps.refl _) (argsL := [(.ref b232)]) (rest := [(.int (0 : Int32))]) (lenOf pd_4 rfl) rfl (by show 2 * 0 + _ ≤ _; exact Nat.le_of_eq rfl) (hb hby at_156) (fun _ _ => ⟨rfl, ec234, (by decide : 7 + 0 ≤ _), (by decide : 52 + 0 ≤ _)⟩)
      dsimp only [Pt.U, Pt.locs, Pt.cells, Pt.slots] at X237 l237 y237 z237 st237 hQ237
      subst l237 y237 z237
      obtain ⟨rfl, Nq237, ec237⟩ := hQ237
      have N237 := Fr.app N234 Nq237
      obtain ⟨fs, hr, hrun, hended, hRW⟩ := X237.leaveW (s := s) hS221 (by rw [ec237]; exact (Nat.le_trans (Nat.le_trans (Nat.le_trans (Nat.le_trans (Nat.le_trans hk221 K222.1) E230.1) K231.1) E232.1) K233.1)) (v := some (.int (1 : Int32))) (fun h => by rw [Bd.returns] at h; cases h)
      refine ⟨_, _, pre201 _ ?_, hrun, hended, _, _, rfl, ⟨rfl, N237⟩, hRW.1, hRW.2.1, hRW.2.2.1, hRW.2.2.2.mono (by decide) (by decide)⟩
      show Steps p.tables e below (T200.setTop (mkF m 77 #[.val (.int p1), .val (.long p2), .second, .val (.int p3), .val (.int p4), .val (.int (2 : Int32)), .val (.ref b199_0), .val (.ref w_VARCHAR), .unset, .unset, .unset, .unset, .unset] [(.int y3)])) _
      refine XS.ifNo X200.here hx rfl (hb hby at_77) rfl ((if0 _ _).trans (feq hf201).1) ?_
      show Steps p.tables e below (T200.setTop (mkF m 80 #[.val (.int p1), .val (.long p2), .second, .val (.int p3), .val (.int p4), .val (.int (2 : Int32)), .val (.ref b199_0), .val (.ref w_VARCHAR), .unset, .unset, .unset, .unset, .unset] [])) _
      refine XS.iconst X200.here hx rfl (hb hby at_80) ?_
      refine XS.goto X200.here hx rfl (pc0 := 81) (pc' := 85) rfl (hb hby at_81) (by decide) (by decide) ?_
      refine XS.istore X200.here hx rfl (hb hby at_85) rfl (l' := #[.val (.int p1), .val (.long p2), .second, .val (.int p3), .val (.int p4), .val (.int (2 : Int32)), .val (.ref b199_0), .val (.ref w_VARCHAR), .val (.int (1 : Int32)), .unset, .unset, .unset, .unset]) rfl ?_
      show Steps p.tables e below (T200.setTop (mkF m 87 #[.val (.int p1), .val (.long p2), .second, .val (.int p3), .val (.int p4), .val (.int (2 : Int32)), .val (.ref b199_0), .val (.ref w_VARCHAR), .val (.int (1 : Int32)), .unset, .unset, .unset, .unset] [])) _
      refine st220 _ ?_
      show Steps p.tables e below (T220.setTop (mkF m 90 #[.val (.int p1), .val (.long p2), .second, .val (.int p3), .val (.int p4), .val (.int (2 : Int32)), .val (.ref b199_0), .val (.ref w_VARCHAR), .val (.int (1 : Int32)), .unset, .unset, .unset, .unset] [(.ref b220)])) _
      refine XS.dup X220.here hx rfl (hb hby at_90) rfl rfl ?_
      refine st221 _ ?_
      refine XS.iconst X221.here hx rfl (hb hby at_93) ?_
      refine XS.aload X221.here hx rfl (hb hby at_94) rfl rfl ?_
      show Steps p.tables e below (T221.setTop (mkF m 96 #[.val (.int p1), .val (.long p2), .second, .val (.int p3), .val (.int p4), .val (.int (2 : Int32)), .val (.ref b199_0), .val (.ref w_VARCHAR), .val (.int (1 : Int32)), .unset, .unset, .unset, .unset] [(.ref w_VARCHAR), (.int (-1 : Int32)), (.ref b221), (.ref b220), (.ref b220)])) _
      refine X221.ldcInt hx hown221 (mvT hZ221 (wd0 hw)) (g := (mkF m 96 #[.val (.int p1), .val (.long p2), .second, .val (.int p3), .val (.int p4), .val (.int (2 : Int32)), .val (.ref b199_0), .val (.ref w_VARCHAR), .val (.int (1 : Int32)), .unset, .unset, .unset, .unset] [(.ref w_VARCHAR), (.int (-1 : Int32)), (.ref b221), (.ref b220), (.ref b220)])) rfl (hb hby at_96) _ ?_
      refine XS.iconst X221.here hx rfl (hb hby at_98) ?_
      refine XS.iload X221.here hx rfl (hb hby at_99) rfl ?_
      show Steps p.tables e below (T221.setTop (mkF m 101 #[.val (.int p1), .val (.long p2), .second, .val (.int p3), .val (.int p4), .val (.int (2 : Int32)), .val (.ref b199_0), .val (.ref w_VARCHAR), .val (.int (1 : Int32)), .unset, .unset, .unset, .unset] [(.int (1 : Int32)), (.int (0 : Int32)), (.int (2147483647 : Int32)), (.ref w_VARCHAR), (.int (-1 : Int32)), (.ref b221), (.ref b220), (.ref b220)])) _
      refine st222.trans ?_
      show Steps p.tables e below (T222.setTop (mkF m 104 #[.val (.int p1), .val (.long p2), .second, .val (.int p3), .val (.int p4), .val (.int (2 : Int32)), .val (.ref b199_0), .val (.ref w_VARCHAR), .val (.int (1 : Int32)), .unset, .unset, .unset, .unset] [(.ref b220)])) _
      refine XS.astore X222.here hx rfl (hb hby at_104) rfl rfl (l' := #[.val (.int p1), .val (.long p2), .second, .val (.int p3), .val (.int p4), .val (.int (2 : Int32)), .val (.ref b199_0), .val (.ref w_VARCHAR), .val (.int (1 : Int32)), .val (.ref b220), .unset, .unset, .unset]) rfl ?_
      show Steps p.tables e below (T222.setTop (mkF m 106 #[.val (.int p1), .val (.long p2), .second, .val (.int p3), .val (.int p4), .val (.int (2 : Int32)), .val (.ref b199_0), .val (.ref w_VARCHAR), .val (.int (1 : Int32)), .val (.ref b220), .unset, .unset, .unset] [])) _
      refine st230 _ ?_
      show Steps p.tables e below (T230.setTop (mkF m 109 #[.val (.int p1), .val (.long p2), .second, .val (.int p3), .val (.int p4), .val (.int (2 : Int32)), .val (.ref b199_0), .val (.ref w_VARCHAR), .val (.int (1 : Int32)), .val (.ref b220), .unset, .unset, .unset] [(.ref b230)])) _
      refine XS.dup X230.here hx rfl (hb hby at_109) rfl rfl ?_
      refine XS.aload X230.here hx rfl (hb hby at_110) rfl rfl ?_
      refine XS.aload X230.here hx rfl (hb hby at_112) rfl rfl ?_
      show Steps p.tables e below (T230.setTop (mkF m 114 #[.val (.int p1), .val (.long p2), .second, .val (.int p3), .val (.int p4), .val (.int (2 : Int32)), .val (.ref b199_0), .val (.ref w_VARCHAR), .val (.int (1 : Int32)), .val (.ref b220), .unset, .unset, .unset] [(.ref b220), (.ref b199_0), (.ref b230), (.ref b230)])) _
      refine st231.trans ?_
      show Steps p.tables e below (T231.setTop (mkF m 117 #[.val (.int p1), .val (.long p2), .second, .val (.int p3), .val (.int p4), .val (.int (2 : Int32)), .val (.ref b199_0), .val (.ref w_VARCHAR), .val (.int (1 : Int32)), .val (.ref b220), .unset, .unset, .unset] [(.ref b230)])) _
      refine XS.astore X231.here hx rfl (hb hby at_117) rfl rfl (l' := #[.val (.int p1), .val (.long p2), .second, .val (.int p3), .val (.int p4), .val (.int (2 : Int32)), .val (.ref b199_0), .val (.ref w_VARCHAR), .val (.int (1 : Int32)), .val (.ref b220), .val (.ref b230), .unset, .unset]) rfl ?_
      show Steps p.tables e below (T231.setTop (mkF m 119 #[.val (.int p1), .val (.long p2), .second, .val (.int p3), .val (.int p4), .val (.int (2 : Int32)), .val (.ref b199_0), .val (.ref w_VARCHAR), .val (.int (1 : Int32)), .val (.ref b220), .val (.ref b230), .unset, .unset] [])) _
      refine st232 _ ?_
      show Steps p.tables e below (T232.setTop (mkF m 122 #[.val (.int p1), .val (.long p2), .second, .val (.int p3), .val (.int p4), .val (.int (2 : Int32)), .val (.ref b199_0), .val (.ref w_VARCHAR), .val (.int (1 : Int32)), .val (.ref b220), .val (.ref b230), .unset, .unset] [(.ref b232)])) _
      refine XS.dup X232.here hx rfl (hb hby at_122) rfl rfl ?_
      show Steps p.tables e below (T232.setTop (mkF m 123 #[.val (.int p1), .val (.long p2), .second, .val (.int p3), .val (.int p4), .val (.int (2 : Int32)), .val (.ref b199_0), .val (.ref w_VARCHAR), .val (.int (1 : Int32)), .val (.ref b220), .val (.ref b230), .unset, .unset] [(.ref b232), (.ref b232)])) _
      refine st233.trans ?_
      show Steps p.tables e below (T233.setTop (mkF m 126 #[.val (.int p1), .val (.long p2), .second, .val (.int p3), .val (.int p4), .val (.int (2 : Int32)), .val (.ref b199_0), .val (.ref w_VARCHAR), .val (.int (1 : Int32)), .val (.ref b220), .val (.ref b230), .unset, .unset] [(.ref b232)])) _
      refine XS.astore X233.here hx rfl (hb hby at_126) rfl rfl (l' := #[.val (.int p1), .val (.long p2), .second, .val (.int p3), .val (.int p4), .val (.int (2 : Int32)), .val (.ref b199_0), .val (.ref w_VARCHAR), .val (.int (1 : Int32)), .val (.ref b220), .val (.ref b230), .val (.ref b232), .unset]) rfl ?_
      refine XS.aload X233.here hx rfl (hb hby at_128) rfl rfl ?_
      show Steps p.tables e below (T233.setTop (mkF m 130 #[.val (.int p1), .val (.long p2), .second, .val (.int p3), .val (.int p4), .val (.int (2 : Int32)), .val (.ref b199_0), .val (.ref w_VARCHAR), .val (.int (1 : Int32)), .val (.ref b220), .val (.ref b230), .val (.ref b232), .unset] [(.ref b230)])) _
      refine st234.trans ?_
      show Steps p.tables e below (T234.setTop (mkF m 133 #[.val (.int p1), .val (.long p2), .second, .val (.int p3), .val (.int p4), .val (.int (2 : Int32)), .val (.ref b199_0), .val (.ref w_VARCHAR), .val (.int (1 : Int32)), .val (.ref b220), .val (.ref b230), .val (.ref b232), .unset] [(.int (0 : Int32))])) _
      refine XS.istore X234.here hx rfl (hb hby at_133) rfl (l' := #[.val (.int p1), .val (.long p2), .second, .val (.int p3), .val (.int p4), .val (.int (2 : Int32)), .val (.ref b199_0), .val (.ref w_VARCHAR), .val (.int (1 : Int32)), .val (.ref b220), .val (.ref b230), .val (.ref b232), .val (.int (0 : Int32))]) rfl ?_
      refine XS.iload X234.here hx rfl (hb hby at_135) rfl ?_
      refine XS.iload X234.here hx rfl (hb hby at_137) rfl ?_
      show Steps p.tables e below (T234.setTop (mkF m 139 #[.val (.int p1), .val (.long p2), .second, .val (.int p3), .val (.int p4), .val (.int (2 : Int32)), .val (.ref b199_0), .val (.ref w_VARCHAR), .val (.int (1 : Int32)), .val (.ref b220), .val (.ref b230), .val (.ref b232), .val (.int (0 : Int32))] [(.int (2 : Int32)), (.int (0 : Int32))])) _
      refine XS.ifYes X234.here hx rfl (pc0 := 139) (pc' := 146) rfl (hb hby at_139) rfl ((if0 _ _).trans (feq (by decide : ¬ ((2 : Int32) = (0 : Int32)))).2) (by decide) (by decide) ?_
      show Steps p.tables e below (T234.setTop (mkF m 146 #[.val (.int p1), .val (.long p2), .second, .val (.int p3), .val (.int p4), .val (.int (2 : Int32)), .val (.ref b199_0), .val (.ref w_VARCHAR), .val (.int (1 : Int32)), .val (.ref b220), .val (.ref b230), .val (.ref b232), .val (.int (0 : Int32))] [(.int (0 : Int32))])) _
      refine XS.iconst X234.here hx rfl (hb hby at_146) ?_
      show Steps p.tables e below (T234.setTop (mkF m 147 #[.val (.int p1), .val (.long p2), .second, .val (.int p3), .val (.int p4), .val (.int (2 : Int32)), .val (.ref b199_0), .val (.ref w_VARCHAR), .val (.int (1 : Int32)), .val (.ref b220), .val (.ref b230), .val (.ref b232), .val (.int (0 : Int32))] [(.int (0 : Int32)), (.int (0 : Int32))])) _
      refine XS.icmpNo X234.here hx rfl (hb hby at_147) rfl (teq (rfl : (0 : Int32) = (0 : Int32))).2 ?_
      show Steps p.tables e below (T234.setTop (mkF m 150 #[.val (.int p1), .val (.long p2), .second, .val (.int p3), .val (.int p4), .val (.int (2 : Int32)), .val (.ref b199_0), .val (.ref w_VARCHAR), .val (.int (1 : Int32)), .val (.ref b220), .val (.ref b230), .val (.ref b232), .val (.int (0 : Int32))] [])) _
      refine XS.iload X234.here hx rfl (hb hby at_150) rfl ?_
      refine XS.aload X234.here hx rfl (hb hby at_152) rfl rfl ?_
      refine XS.aload X234.here hx rfl (hb hby at_154) rfl rfl ?_
      show Steps p.tables e below (T234.setTop (mkF m 156 #[.val (.int p1), .val (.long p2), .second, .val (.int p3), .val (.int p4), .val (.int (2 : Int32)), .val (.ref b199_0), .val (.ref w_VARCHAR), .val (.int (1 : Int32)), .val (.ref b220), .val (.ref b230), .val (.ref b232), .val (.int (0 : Int32))] [(.ref b232), (.ref b230), (.int (0 : Int32))])) _
      refine st237.trans ?_
      show Steps p.tables e below (T237.setTop (mkF m 159 #[.val (.int p1), .val (.long p2), .second, .val (.int p3), .val (.int p4), .val (.int (2 : Int32)), .val (.ref b199_0), .val (.ref w_VARCHAR), .val (.int (1 : Int32)), .val (.ref b220), .val (.ref b230), .val (.ref b232), .val (.int (0 : Int32))] [(.ref b199_0), (.int (0 : Int32))])) _
      refine XS.ifnonnullYes X237.here hx rfl (pc0 := 159) (pc' := 166) rfl (hb hby at_159) rfl (by decide) (by decide) ?_
      show Steps p.tables e below (T237.setTop (mkF m 166 #[.val (.int p1), .val (.long p2), .second, .val (.int p3), .val (.int p4), .val (.int (2 : Int32)), .val (.ref b199_0), .val (.ref w_VARCHAR), .val (.int (1 : Int32)), .val (.ref b220), .val (.ref b230), .val (.ref b232), .val (.int (0 : Int32))] [(.int (0 : Int32))])) _
      refine XS.iconst X237.here hx rfl (hb hby at_166) ?_
      show Steps p.tables e below (T237.setTop (mkF m 167 #[.val (.int p1), .val (.long p2), .second, .val (.int p3), .val (.int p4), .val (.int (2 : Int32)), .val (.ref b199_0), .val (.ref w_VARCHAR), .val (.int (1 : Int32)), .val (.ref b220), .val (.ref b230), .val (.ref b232), .val (.int (0 : Int32))] [(.int (0 : Int32)), (.int (0 : Int32))])) _
      refine XS.icmpNo X237.here hx rfl (hb hby at_167) rfl (teq (rfl : (0 : Int32) = (0 : Int32))).2 ?_
      show Steps p.tables e below (T237.setTop (mkF m 170 #[.val (.int p1), .val (.long p2), .second, .val (.int p3), .val (.int p4), .val (.int (2 : Int32)), .val (.ref b199_0), .val (.ref w_VARCHAR), .val (.int (1 : Int32)), .val (.ref b220), .val (.ref b230), .val (.ref b232), .val (.int (0 : Int32))] [])) _
      refine XS.iconst X237.here hx rfl (hb hby at_170) ?_
      refine XS.goto X237.here hx rfl (pc0 := 171) (pc' := 175) rfl (hb hby at_171) (by decide) (by decide) ?_
      show Steps p.tables e below (T237.setTop (mkF m 175 #[.val (.int p1), .val (.long p2), .second, .val (.int p3), .val (.int p4), .val (.int (2 : Int32)), .val (.ref b199_0), .val (.ref w_VARCHAR), .val (.int (1 : Int32)), .val (.ref b220), .val (.ref b230), .val (.ref b232), .val (.int (0 : Int32))] [(.int (1 : Int32))])) _
      exact retN X237 hx (t := .boolean) Bd.returns (by simp) (hb hby at_175) hr
set_option maxRecDepth 65536 in
set_option maxHeartbeats 40000000 in
theorem comes_1 {Post : Tables → Env → Array Value → State → Outcome → State → Prop} (hpost : ∀ tb e args s v u, (limb_1_1.after args s (.returned v) u = true ∧ limb_1_2.after args s (.returned v) u = true ∧ True) → ReturnedEndW s (.returned v) u (Jvm.fieldLocs frame_1_writes args s ++ Jvm.arrayLocs frame_1_arrays args s ++ Jvm.staticLocs frame_1_statics s) 24 1152 → Post tb e args s (.returned v) u) :
    ArmFor flags0 classFile x code maxLocals ret World_1 tables_1 room_1 Calls_1 rest_1 Pre_1 Post := by
  intro l hfl _ _ p e ha hc hk s m args below hf hA hF happ hP
  obtain ⟨hcalls, hrest, hpre⟩ := hP
  obtain ⟨-, -, -, hnamed, -, -, -, hat⟩ := (Spec.applies_iff hf).mp happ
  obtain ⟨hg, hn⟩ := and_e (Cond.before_iff.mp (show (Jvm.Cond.and given_1 narrow_1).before args s = true from hpre))
  obtain ⟨g13, g14⟩ := and_e hg
  obtain ⟨g15, g16⟩ := and_e g14
  obtain ⟨g17, g18⟩ := and_e g16
  obtain ⟨g19, g20⟩ := and_e g18
  obtain ⟨w0, w1, w2, w3, rfl⟩ : ∃ w0 w1 w2 w3 : Value, args = #[w0, w1, w2, w3] := by
    have hs : args.size = 4 := by simpa [Cond.value, given_1] using g13
    obtain ⟨L⟩ := args
    match L, hs with
    | [w0, w1, w2, w3], _ => exact ⟨w0, w1, w2, w3, rfl⟩
  have hw := fun d (hd : d ∈ tables_1) => atoms_spec (ws := Jvm.Cond.code x code maxLocals ret :: tables_1) hat d (List.mem_cons_of_mem _ hd)
  have hfit : Fit s := fun {y c} hc i hi => by
    obtain ⟨ha, rfl⟩ := Array.getElem?_eq_some_iff.mp hc
    have q := List.all_eq_true.mp ((Array.all_eq_true_iff_forall_mem.mp hF) _ (Array.getElem_mem ha)) i (List.mem_range.mpr hi)
    simpa [Array.getElem?_eq_getElem hi] using q
  obtain ⟨hsets, hown0⟩ := atoms_of _ (rest_1_c_eq ▸ (show rest_1_c.before _ s = true from hrest))
  obtain ⟨i0, ei0⟩ := is_v g15
  obtain rfl : w0 = (.int i0) := Option.some.inj ei0
  obtain ⟨i1, ei1⟩ := isL_v g17
  obtain rfl : w1 = (.long i1) := Option.some.inj ei1
  obtain ⟨i2, ei2⟩ := is_v g19
  obtain rfl : w2 = (.int i2) := Option.some.inj ei2
  obtain ⟨i3, ei3⟩ := is_v g20
  obtain rfl : w3 = (.int i3) := Option.some.inj ei3
  obtain ⟨n1, n2⟩ := and_e hn
  obtain ⟨n3, n4⟩ := and_e n2
  obtain ⟨w_VARCHAR, ev5⟩ := exa_v n1
  have S_SqlType_VARCHAR : Sta s s.heap "com/example/rowforge/rowforge/SqlType" "VARCHAR" "Lcom/example/rowforge/rowforge/SqlType;" (.ref w_VARCHAR) := Sta.start ev5 (Or.inr ⟨(wd2 hw), (wd3 hw)⟩)
  have E_w_VARCHAR : Exa s s.heap w_VARCHAR "com/example/rowforge/rowforge/SqlType$9" := Exa.start ev5 n1
  obtain ⟨w_INTEGER, ev6⟩ := exa_v n3
  have S_SqlType_INTEGER : Sta s s.heap "com/example/rowforge/rowforge/SqlType" "INTEGER" "Lcom/example/rowforge/rowforge/SqlType;" (.ref w_INTEGER) := Sta.start ev6 (Or.inr ⟨(wd2 hw), (wd84 hw)⟩)
  have E_w_INTEGER : Exa s s.heap w_INTEGER "com/example/rowforge/rowforge/SqlType$2" := Exa.start ev6 n3
  obtain ⟨w_BIGINT, ev7⟩ := exa_v n4
  have S_SqlType_BIGINT : Sta s s.heap "com/example/rowforge/rowforge/SqlType" "BIGINT" "Lcom/example/rowforge/rowforge/SqlType;" (.ref w_BIGINT) := Sta.start ev7 (Or.inr ⟨(wd2 hw), (wd125 hw)⟩)
  have E_w_BIGINT : Exa s s.heap w_BIGINT "com/example/rowforge/rowforge/SqlType$3" := Exa.start ev7 n4
  obtain ⟨w_EMPTY_ELEMENTDATA, ev8⟩ := exa_v (Cond.before_iff.mp (hsets _ (List.mem_of_getElem? (i := 4) rfl)))
  have S_ArrayList_EMPTY_ELEMENTDATA : Sta s s.heap "java/util/ArrayList" "EMPTY_ELEMENTDATA" "[Ljava/lang/Object;" (.ref w_EMPTY_ELEMENTDATA) := Sta.start ev8 (Or.inl (hsets _ (List.mem_of_getElem? (i := 1) rfl)))
  have E_w_EMPTY_ELEMENTDATA : Exa s s.heap w_EMPTY_ELEMENTDATA "[Ljava/lang/Object;" := Exa.start ev8 (Cond.before_iff.mp (hsets _ (List.mem_of_getElem? (i := 4) rfl)))
  obtain ⟨w_DEFAULTCAPACITY_EMPTY_ELEMENTDATA, ev9⟩ := exa_v (Cond.before_iff.mp (hsets _ (List.mem_of_getElem? (i := 7) rfl)))
  have S_ArrayList_DEFAULTCAPACITY_EMPTY_ELEMENTDATA : Sta s s.heap "java/util/ArrayList" "DEFAULTCAPACITY_EMPTY_ELEMENTDATA" "[Ljava/lang/Object;" (.ref w_DEFAULTCAPACITY_EMPTY_ELEMENTDATA) := Sta.start ev9 (Or.inr ⟨(wd51 hw), (hsets _ (List.mem_of_getElem? (i := 2) rfl))⟩)
  have E_w_DEFAULTCAPACITY_EMPTY_ELEMENTDATA : Exa s s.heap w_DEFAULTCAPACITY_EMPTY_ELEMENTDATA "[Ljava/lang/Object;" := Exa.start ev9 (Cond.before_iff.mp (hsets _ (List.mem_of_getElem? (i := 7) rfl)))
  obtain ⟨w_cache, ev10⟩ := exa_v (Cond.before_iff.mp (hsets _ (List.mem_of_getElem? (i := 21) rfl)))
  have S_Long_LongCache_cache : Sta s s.heap "java/lang/Long$LongCache" "cache" "[Ljava/lang/Long;" (.ref w_cache) := Sta.start ev10 (Or.inl (hsets _ (List.mem_of_getElem? (i := 19) rfl)))
  have E_w_cache : Exa s s.heap w_cache "[Ljava/lang/Long;" := Exa.start ev10 (Cond.before_iff.mp (hsets _ (List.mem_of_getElem? (i := 21) rfl)))
  obtain ⟨n_COMPACT_STRINGS, ev11⟩ := is_v (Cond.before_iff.mp (hsets _ (List.mem_of_getElem? (i := 10) rfl)))
  have S_String_COMPACT_STRINGS : Sta s s.heap "java/lang/String" "COMPACT_STRINGS" "Z" (.int n_COMPACT_STRINGS) := Sta.start ev11 (Or.inl (hsets _ (List.mem_of_getElem? (i := 9) rfl)))
  have nz12 : ¬ (n_COMPACT_STRINGS = (0 : Int32)) := gotF (Cond.eq_ints ev11 (Term.int_eval (0))) (not_v (Cond.before_iff.mp (hsets _ (List.mem_of_getElem? (i := 11) rfl))))
  obtain ⟨cc_w_cache, B_w_cache⟩ := own_bxs (z := 256) (val := fun j => .long ((j - 128).toInt64)) ev10 (Cond.before_iff.mp (hsets _ (List.mem_of_getElem? (i := 20) rfl))) (Cond.before_iff.mp (hsets _ (List.mem_of_getElem? (i := 22) rfl))) (by decide) (Cond.before_iff.mp (hsets _ (List.mem_of_getElem? (i := 23) rfl))) (fun X j hj h => eqv_l (i2l_at (own_idx hj)) h)
  obtain ⟨k_w_EMPTY_ELEMENTDATA, V_w_EMPTY_ELEMENTDATA⟩ := own_arr0 hfit ev8 (Cond.before_iff.mp (hsets _ (List.mem_of_getElem? (i := 3) rfl))) (Cond.before_iff.mp (hsets _ (List.mem_of_getElem? (i := 5) rfl)))
  obtain ⟨k_w_DEFAULTCAPACITY_EMPTY_ELEMENTDATA, V_w_DEFAULTCAPACITY_EMPTY_ELEMENTDATA⟩ := own_arr0 hfit ev9 (Cond.before_iff.mp (hsets _ (List.mem_of_getElem? (i := 6) rfl))) (Cond.before_iff.mp (hsets _ (List.mem_of_getElem? (i := 8) rfl)))
  have R : MetFree l x (head1 (Jvm.Cond.code x code maxLocals ret :: tables_1) room_1) (fun a U => a = #[(.int i0), (.long i1), (.int i2), (.int i3)] ∧ s.Warmed39 U.vm ∧ U.heap = s.heap) (fun _ _ _ _ _ => True) (fun _ U o U' => ∃ v L, o = .returned v ∧ Q0 s.heap.size v L ∧ ReturnedEndW U o U' L 24 1152) := by
    exact rm0 l s _ hw tables_1 i0 i1 i2 i3 (i0 &&& (2147483647 : Int32)) (i3 &&& (2 : Int32)) w_VARCHAR (i3 &&& (1 : Int32)) w_DEFAULTCAPACITY_EMPTY_ELEMENTDATA w_INTEGER w_BIGINT w_cache (i2 &&& (255 : Int32)) ((i2 &&& (255 : Int32)).toUInt32.toUInt16.toUInt32.toInt32) n_COMPACT_STRINGS s.heap s.heap.size (Old.start s) rfl rfl S_SqlType_VARCHAR rfl S_ArrayList_DEFAULTCAPACITY_EMPTY_ELEMENTDATA S_SqlType_INTEGER S_SqlType_BIGINT ⟨_, B_w_cache⟩ S_Long_LongCache_cache rfl rfl S_String_COMPACT_STRINGS nz12 (own_c255 i2 : ¬ ((255 : Int32) < ((i2 &&& (255 : Int32)).toUInt32.toUInt16.toUInt32.toInt32)))
  obtain ⟨n, o, h1, h2, h3, _, L, rfl, ⟨rfl, N⟩, hq⟩ := R p e ha hc hk s m _ below hf ((Spec.applies_iff_loose hf).mp happ).1 ⟨rfl, State.Warmed39.refl s, rfl⟩ trivial
  refine ⟨n, _, h1, h2, h3, hpost _ _ _ _ _ _ ⟨Cond.after_iff.mpr rfl, Cond.after_iff.mpr (eq_i res_at (Term.int_eval (1)) rfl), trivial⟩ ⟨hq.1, hq.2.1, hq.2.2.1, (hq.2.2.2.sift fun y hy => Or.inr (N y hy)).mono (by decide) (by decide)⟩⟩
theorem main_1_1 : Claimed_1_1 := comes_1 fun _ _ _ _ _ _ h hF => ⟨h.1, hF⟩
theorem main_1_2 : Claimed_1_2 := comes_1 fun _ _ _ _ _ _ h hF => ⟨h.2.1, hF⟩
end Jvm.Pilot.@@N@@
namespace Jvm.Pilot.@@N@@
open Jvm Jvm.ClassFile Sem Op Lib Jvm.Free Jvm.Stand Jvm.Pilot.@@N@@.Jvm.D
/-! MADE BY PROGRAM (witnessworld.py) out of the Statement's table words and the real class files: 38 classes; the members and pool entries that the words name. The judged class is class 1, her method 1. -/
namespace start1
open Jvm.ClassFile
def u (s : String) : CpInfo := .utf8 (stringToUtf16 s)
/-- a pool by its gaps: so many unusable entries, then the entry; so many at the end -/
def gap : Nat → List CpInfo → List CpInfo
  | 0, r => r
  | n + 1, r => .unusable :: gap n r
def poolList (es : List (Nat × CpInfo)) (last : Nat) : List CpInfo := es.foldr (fun e r => gap e.1 (e.2 :: r)) (gap last [])
def pool (es : List (Nat × CpInfo)) (last : Nat) : Array CpInfo := ⟨poolList es last⟩
def fileOf (pool : Array CpInfo) (this : Nat) (attrs : Array Attribute := #[]) (ms : Array MethodInfo := #[]) (fl : Nat := 33) (sup : Nat := 0) (ifs : Array Nat := #[]) (fds : Array FieldInfo := #[]) : ClassFile where
  minorVersion := 0
  majorVersion := 65
  constantPool := pool
  accessFlags := fl
  thisClass := this
  superClass := sup
  interfaces := ifs
  fields := fds
  methods := ms
  attributes := attrs
def plain (name : String) (sup : Option ClassId) : Class where
  name := name
  kind := .ordinary
  loader := none
  accessFlags := 33
  super := sup
  interfaces := #[]
  cf := none
  fields := #[]
  methods := #[]
  instanceTypes := #[]
  staticTypes := #[]
  resolved := #[]
  callSites := []
  init := .initialized
  statics := none
  mirror := none

def pool0 : Array CpInfo := pool [(5, u "<init>"), (0, u "()V"), (1, .class_ 10), (1, u "java/lang/Object")] 113

def k0c0 : Code := { maxStack := 0, maxLocals := 1, code := object_method_1_code, exceptionTable := #[], attributes := #[] }
def k0m0 : Method := { name := "<init>", desc := "()V", sig := { parameters := [], returnType := none }, accessFlags := 1, code := some k0c0 }
/-- java/lang/Object -/
def k0 : Class := { plain "java/lang/Object" none with
  accessFlags := 33
  interfaces := #[]
  cf := some (fileOf pool0 8 #[] #[{ accessFlags := 1, nameIndex := 5, descriptorIndex := 6, attributes := #[] }] 33 0 #[] #[])
  fields := #[]
  methods := #[k0m0]
  instanceTypes := #[]
  staticTypes := #[]
  resolved := Array.replicate 124 none
  statics := none }

def pool1 : Array CpInfo := pool [(2, .class_ 4), (0, .nameAndType 5 6), (0, u "java/lang/Object"), (0, u "<init>"), (0, u "()V"), (0, .integer 2147483647), (0, .fieldref 9 10), (0, .class_ 11), (0, .nameAndType 12 13), (0, u "com/example/rowforge/rowforge/SqlType"), (0, u "INTEGER"), (0, u "Lcom/example/rowforge/rowforge/SqlType;"), (0, .fieldref 9 15), (0, .nameAndType 16 13), (0, u "VARCHAR"), (0, .methodref 18 19), (0, .class_ 20), (0, .nameAndType 21 22), (0, u "java/lang/Long"), (0, u "valueOf"), (0, u "(J)Ljava/lang/Long;"), (0, .fieldref 9 24), (0, .nameAndType 25 13), (0, u "BIGINT"), (0, .methodref 27 28), (0, .class_ 29), (0, .nameAndType 21 30), (0, u "java/lang/String"), (0, u "(C)Ljava/lang/String;"), (0, .class_ 32), (0, u "com/example/rowforge/rowforge/Column"), (0, .string 34), (0, u "?column?"), (0, .methodref 31 36), (0, .nameAndType 5 37), (0, u "(Ljava/lang/String;ILcom/example/rowforge/rowforge/SqlType;IIZ)V"), (0, .class_ 39), (0, u "com/example/rowforge/rowforge/Field$Constant"), (0, .methodref 38 41), (0, .nameAndType 5 42), (0, u "(Ljava/lang/Object;Lcom/example/rowforge/rowforge/Column;)V"), (0, .class_ 44), (0, u "java/util/ArrayList"), (0, .methodref 43 3), (0, .methodref 38 47), (0, .nameAndType 48 49), (0, u "nullable"), (0, u "()Z"), (0, .methodref 38 51), (0, .nameAndType 52 53), (0, u "value"), (0, u "(Ljava/util/List;)Ljava/lang/Object;"), (0, .class_ 55), (0, u "com/example/rowforge/rowforge/ConstantNullablePinLaw"), (2, u "law"), (0, u "(IJII)Z")] 9

def k1m0 : Method := { name := "<init>", desc := "()V", sig := { parameters := [], returnType := none }, accessFlags := 1, code := none }
def k1c1 : Code := { maxStack := 8, maxLocals := 13, code := code, exceptionTable := #[], attributes := #[] }
def k1m1 : Method := { name := "law", desc := "(IJII)Z", sig := { parameters := [.int, .long, .int, .int], returnType := some .boolean }, accessFlags := 9, code := some k1c1 }
/-- com/example/rowforge/rowforge/ConstantNullablePinLaw -/
def k1 : Class := { plain "com/example/rowforge/rowforge/ConstantNullablePinLaw" (some 0) with
  accessFlags := 49
  interfaces := #[]
  cf := some (fileOf pool1 54 #[] #[{ accessFlags := 1, nameIndex := 5, descriptorIndex := 6, attributes := #[] }, { accessFlags := 9, nameIndex := 58, descriptorIndex := 59, attributes := #[] }] 49 2 #[] #[])
  fields := #[]
  methods := #[k1m0, k1m1]
  instanceTypes := #[]
  staticTypes := #[]
  resolved := Array.replicate 69 none
  statics := none }

def pool2 : Array CpInfo := pool [(1, .class_ 2), (0, u "java/lang/constant/Constable"), (0, .class_ 4), (0, u "java/lang/Object")] 6

/-- java/lang/constant/Constable -/
def k2 : Class := { plain "java/lang/constant/Constable" (some 0) with
  accessFlags := 1537
  interfaces := #[]
  cf := some (fileOf pool2 1 #[] #[] 1537 3 #[] #[])
  fields := #[]
  methods := #[]
  instanceTypes := #[]
  staticTypes := #[]
  resolved := Array.replicate 11 none
  statics := none }

def pool3 : Array CpInfo := pool [(1, .class_ 2), (0, u "java/lang/Comparable"), (0, .class_ 4), (0, u "java/lang/Object")] 7

/-- java/lang/Comparable -/
def k3 : Class := { plain "java/lang/Comparable" (some 0) with
  accessFlags := 1537
  interfaces := #[]
  cf := some (fileOf pool3 1 #[] #[] 1537 3 #[] #[])
  fields := #[]
  methods := #[]
  instanceTypes := #[]
  staticTypes := #[]
  resolved := Array.replicate 12 none
  statics := none }

def pool4 : Array CpInfo := pool [(1, .class_ 2), (0, u "java/io/Serializable"), (0, .class_ 4), (0, u "java/lang/Object")] 2

/-- java/io/Serializable -/
def k4 : Class := { plain "java/io/Serializable" (some 0) with
  accessFlags := 1537
  interfaces := #[]
  cf := some (fileOf pool4 1 #[] #[] 1537 3 #[] #[])
  fields := #[]
  methods := #[]
  instanceTypes := #[]
  staticTypes := #[]
  resolved := Array.replicate 7 none
  statics := none }

def pool5 : Array CpInfo := pool [(2, .class_ 4), (1, u "java/lang/Enum"), (0, u "name"), (0, u "Ljava/lang/String;"), (2, u "ordinal"), (0, u "I"), (1, .class_ 14), (1, u "java/lang/Object"), (4, u "hash"), (86, .class_ 108), (1, u "java/lang/Enum$EnumDesc"), (2, .class_ 112), (0, u "java/lang/constant/Constable"), (0, .class_ 114), (0, u "java/lang/Comparable"), (0, .class_ 116), (0, u "java/io/Serializable")] 87

/-- java/lang/Enum -/
def k5 : Class := { plain "java/lang/Enum" (some 0) with
  accessFlags := 1057
  interfaces := #[2, 3, 4]
  cf := some (fileOf pool5 2 #[.nestMembers #[106]] #[] 1057 12 #[111, 113, 115] #[{ accessFlags := 18, nameIndex := 5, descriptorIndex := 6, attributes := #[] }, { accessFlags := 18, nameIndex := 9, descriptorIndex := 10, attributes := #[] }, { accessFlags := 2, nameIndex := 19, descriptorIndex := 10, attributes := #[] }])
  fields := #[{ name := "name", type := (.object "java/lang/String"), accessFlags := 18, slot := 0, constantValue := 0 }, { name := "ordinal", type := .int, accessFlags := 18, slot := 1, constantValue := 0 }, { name := "hash", type := .int, accessFlags := 2, slot := 2, constantValue := 0 }]
  methods := #[]
  instanceTypes := #[(.object "java/lang/String"), .int, .int]
  staticTypes := #[]
  resolved := Array.replicate 204 none
  statics := none }

def pool6 : Array CpInfo := pool [(3, .class_ 4), (0, u "com/example/rowforge/rowforge/SqlType"), (2, u "SMALLINT"), (0, u "Lcom/example/rowforge/rowforge/SqlType;"), (2, u "INTEGER"), (2, u "BIGINT"), (2, u "NUMERIC"), (2, u "BOOLEAN"), (2, u "DATE"), (2, u "TIMESTAMP"), (2, u "CHAR"), (2, u "VARCHAR"), (2, u "$VALUES"), (0, u "[Lcom/example/rowforge/rowforge/SqlType;"), (6, .class_ 45), (1, u "java/lang/Enum"), (8, u "category"), (0, u "Lcom/example/rowforge/rowforge/SqlType$Category;"), (2, u "greatestSpecial"), (0, u "Lcom/example/rowforge/rowforge/SqlType$Special;"), (2, u "leastSpecial"), (8, u "names"), (0, u "Ljava/util/List;"), (15, .class_ 90), (1, u "com/example/rowforge/rowforge/SqlType$Category"), (24, .class_ 116), (0, u "com/example/rowforge/rowforge/SqlType$Special"), (189, u "DATE_TIME"), (0, u "Ljava/util/regex/Pattern;"), (139, .class_ 448), (0, u "com/example/rowforge/rowforge/SqlType$1"), (8, .class_ 458), (0, u "com/example/rowforge/rowforge/SqlType$2"), (8, .class_ 468), (0, u "com/example/rowforge/rowforge/SqlType$3"), (6, .class_ 476), (0, u "com/example/rowforge/rowforge/SqlType$4"), (3, u "NAN"), (5, .class_ 487), (0, u "com/example/rowforge/rowforge/SqlType$5"), (8, .class_ 497), (0, u "com/example/rowforge/rowforge/SqlType$6"), (5, u "INFINITY"), (2, u "MINUS_INFINITY"), (1, .class_ 509), (0, u "com/example/rowforge/rowforge/SqlType$7"), (8, .class_ 519), (0, u "com/example/rowforge/rowforge/SqlType$8"), (8, .class_ 529), (0, u "com/example/rowforge/rowforge/SqlType$9"), (11, u "Ljava/lang/Object;"), (9, u "DATE_MIN"), (0, u "Ljava/time/LocalDate;"), (3, u "DATE_MAX"), (6, u "TIMESTAMP_MIN"), (0, u "Ljava/time/LocalDateTime;"), (4, u "TIMESTAMP_MAX"), (2, u "SAMPLE_DAY"), (6, u "INTEGER_MIN"), (0, u "J"), (3, u "INTEGER_MAX"), (2, u "QUOTIENT_DIGITS"), (0, u "I"), (1, u "QUOTIENT_MAX_SCALE"), (1, u "GROUP_DIGITS"), (1, u "SAMPLE_DAYS"), (2, u "HOURS_A_DAY"), (2, u "NANOS_DIGITS")] 82

/-- com/example/rowforge/rowforge/SqlType -/
def k6 : Class := { plain "com/example/rowforge/rowforge/SqlType" (some 5) with
  accessFlags := 17440
  interfaces := #[]
  cf := some (fileOf pool6 3 #[.nestMembers #[115, 88, 528, 518, 508, 496, 486, 475, 467, 457, 447]] #[] 17440 43 #[] #[{ accessFlags := 16409, nameIndex := 7, descriptorIndex := 8, attributes := #[] }, { accessFlags := 16409, nameIndex := 11, descriptorIndex := 8, attributes := #[] }, { accessFlags := 16409, nameIndex := 14, descriptorIndex := 8, attributes := #[] }, { accessFlags := 16409, nameIndex := 17, descriptorIndex := 8, attributes := #[] }, { accessFlags := 16409, nameIndex := 20, descriptorIndex := 8, attributes := #[] }, { accessFlags := 16409, nameIndex := 23, descriptorIndex := 8, attributes := #[] }, { accessFlags := 16409, nameIndex := 26, descriptorIndex := 8, attributes := #[] }, { accessFlags := 16409, nameIndex := 29, descriptorIndex := 8, attributes := #[] }, { accessFlags := 16409, nameIndex := 32, descriptorIndex := 8, attributes := #[] }, { accessFlags := 24, nameIndex := 579, descriptorIndex := 580, attributes := #[] }, { accessFlags := 24, nameIndex := 584, descriptorIndex := 580, attributes := #[] }, { accessFlags := 24, nameIndex := 480, descriptorIndex := 541, attributes := #[] }, { accessFlags := 24, nameIndex := 503, descriptorIndex := 541, attributes := #[] }, { accessFlags := 24, nameIndex := 506, descriptorIndex := 541, attributes := #[] }, { accessFlags := 26, nameIndex := 587, descriptorIndex := 588, attributes := #[] }, { accessFlags := 26, nameIndex := 590, descriptorIndex := 588, attributes := #[] }, { accessFlags := 26, nameIndex := 592, descriptorIndex := 588, attributes := #[] }, { accessFlags := 26, nameIndex := 551, descriptorIndex := 552, attributes := #[] }, { accessFlags := 26, nameIndex := 556, descriptorIndex := 552, attributes := #[] }, { accessFlags := 26, nameIndex := 563, descriptorIndex := 564, attributes := #[] }, { accessFlags := 26, nameIndex := 569, descriptorIndex := 564, attributes := #[] }, { accessFlags := 26, nameIndex := 572, descriptorIndex := 552, attributes := #[] }, { accessFlags := 26, nameIndex := 594, descriptorIndex := 580, attributes := #[] }, { accessFlags := 26, nameIndex := 597, descriptorIndex := 580, attributes := #[] }, { accessFlags := 26, nameIndex := 600, descriptorIndex := 588, attributes := #[] }, { accessFlags := 26, nameIndex := 306, descriptorIndex := 307, attributes := #[] }, { accessFlags := 18, nameIndex := 54, descriptorIndex := 55, attributes := #[] }, { accessFlags := 18, nameIndex := 58, descriptorIndex := 59, attributes := #[] }, { accessFlags := 18, nameIndex := 62, descriptorIndex := 59, attributes := #[] }, { accessFlags := 18, nameIndex := 71, descriptorIndex := 72, attributes := #[] }, { accessFlags := 4122, nameIndex := 35, descriptorIndex := 36, attributes := #[] }])
  fields := #[{ name := "SMALLINT", type := (.object "com/example/rowforge/rowforge/SqlType"), accessFlags := 16409, slot := 0, constantValue := 0 }, { name := "INTEGER", type := (.object "com/example/rowforge/rowforge/SqlType"), accessFlags := 16409, slot := 1, constantValue := 0 }, { name := "BIGINT", type := (.object "com/example/rowforge/rowforge/SqlType"), accessFlags := 16409, slot := 2, constantValue := 0 }, { name := "NUMERIC", type := (.object "com/example/rowforge/rowforge/SqlType"), accessFlags := 16409, slot := 3, constantValue := 0 }, { name := "BOOLEAN", type := (.object "com/example/rowforge/rowforge/SqlType"), accessFlags := 16409, slot := 4, constantValue := 0 }, { name := "DATE", type := (.object "com/example/rowforge/rowforge/SqlType"), accessFlags := 16409, slot := 5, constantValue := 0 }, { name := "TIMESTAMP", type := (.object "com/example/rowforge/rowforge/SqlType"), accessFlags := 16409, slot := 6, constantValue := 0 }, { name := "CHAR", type := (.object "com/example/rowforge/rowforge/SqlType"), accessFlags := 16409, slot := 7, constantValue := 0 }, { name := "VARCHAR", type := (.object "com/example/rowforge/rowforge/SqlType"), accessFlags := 16409, slot := 8, constantValue := 0 }, { name := "INTEGER_MIN", type := .long, accessFlags := 24, slot := 9, constantValue := 0 }, { name := "INTEGER_MAX", type := .long, accessFlags := 24, slot := 10, constantValue := 0 }, { name := "NAN", type := (.object "java/lang/Object"), accessFlags := 24, slot := 11, constantValue := 0 }, { name := "INFINITY", type := (.object "java/lang/Object"), accessFlags := 24, slot := 12, constantValue := 0 }, { name := "MINUS_INFINITY", type := (.object "java/lang/Object"), accessFlags := 24, slot := 13, constantValue := 0 }, { name := "QUOTIENT_DIGITS", type := .int, accessFlags := 26, slot := 14, constantValue := 0 }, { name := "QUOTIENT_MAX_SCALE", type := .int, accessFlags := 26, slot := 15, constantValue := 0 }, { name := "GROUP_DIGITS", type := .int, accessFlags := 26, slot := 16, constantValue := 0 }, { name := "DATE_MIN", type := (.object "java/time/LocalDate"), accessFlags := 26, slot := 17, constantValue := 0 }, { name := "DATE_MAX", type := (.object "java/time/LocalDate"), accessFlags := 26, slot := 18, constantValue := 0 }, { name := "TIMESTAMP_MIN", type := (.object "java/time/LocalDateTime"), accessFlags := 26, slot := 19, constantValue := 0 }, { name := "TIMESTAMP_MAX", type := (.object "java/time/LocalDateTime"), accessFlags := 26, slot := 20, constantValue := 0 }, { name := "SAMPLE_DAY", type := (.object "java/time/LocalDate"), accessFlags := 26, slot := 21, constantValue := 0 }, { name := "SAMPLE_DAYS", type := .long, accessFlags := 26, slot := 22, constantValue := 0 }, { name := "HOURS_A_DAY", type := .long, accessFlags := 26, slot := 23, constantValue := 0 }, { name := "NANOS_DIGITS", type := .int, accessFlags := 26, slot := 24, constantValue := 0 }, { name := "DATE_TIME", type := (.object "java/util/regex/Pattern"), accessFlags := 26, slot := 25, constantValue := 0 }, { name := "category", type := (.object "com/example/rowforge/rowforge/SqlType$Category"), accessFlags := 18, slot := 3, constantValue := 0 }, { name := "greatestSpecial", type := (.object "com/example/rowforge/rowforge/SqlType$Special"), accessFlags := 18, slot := 4, constantValue := 0 }, { name := "leastSpecial", type := (.object "com/example/rowforge/rowforge/SqlType$Special"), accessFlags := 18, slot := 5, constantValue := 0 }, { name := "names", type := (.object "java/util/List"), accessFlags := 18, slot := 6, constantValue := 0 }, { name := "$VALUES", type := (.array (.object "com/example/rowforge/rowforge/SqlType")), accessFlags := 4122, slot := 26, constantValue := 0 }]
  methods := #[]
  instanceTypes := #[(.object "java/lang/String"), .int, .int, (.object "com/example/rowforge/rowforge/SqlType$Category"), (.object "com/example/rowforge/rowforge/SqlType$Special"), (.object "com/example/rowforge/rowforge/SqlType$Special"), (.object "java/util/List")]
  staticTypes := #[(.object "com/example/rowforge/rowforge/SqlType"), (.object "com/example/rowforge/rowforge/SqlType"), (.object "com/example/rowforge/rowforge/SqlType"), (.object "com/example/rowforge/rowforge/SqlType"), (.object "com/example/rowforge/rowforge/SqlType"), (.object "com/example/rowforge/rowforge/SqlType"), (.object "com/example/rowforge/rowforge/SqlType"), (.object "com/example/rowforge/rowforge/SqlType"), (.object "com/example/rowforge/rowforge/SqlType"), .long, .long, (.object "java/lang/Object"), (.object "java/lang/Object"), (.object "java/lang/Object"), .int, .int, .int, (.object "java/time/LocalDate"), (.object "java/time/LocalDate"), (.object "java/time/LocalDateTime"), (.object "java/time/LocalDateTime"), (.object "java/time/LocalDate"), .long, .long, .int, (.object "java/util/regex/Pattern"), (.array (.object "com/example/rowforge/rowforge/SqlType"))]
  resolved := Array.replicate 683 none
  statics := some 0 }

def pool7 : Array CpInfo := pool [(1, .methodref 2 3), (0, .class_ 4), (0, .nameAndType 5 6), (0, u "java/lang/Object"), (0, u "<init>"), (0, u "()V"), (0, .class_ 8), (0, u "java/lang/Record")] 13

def k7c0 : Code := { maxStack := 1, maxLocals := 1, code := jdk_30_method_1_code, exceptionTable := #[], attributes := #[] }
def k7m0 : Method := { name := "<init>", desc := "()V", sig := { parameters := [], returnType := none }, accessFlags := 4, code := some k7c0 }
/-- java/lang/Record -/
def k7 : Class := { plain "java/lang/Record" (some 0) with
  accessFlags := 1057
  interfaces := #[]
  cf := some (fileOf pool7 7 #[] #[{ accessFlags := 4, nameIndex := 5, descriptorIndex := 6, attributes := #[] }] 1057 2 #[] #[])
  fields := #[]
  methods := #[k7m0]
  instanceTypes := #[]
  staticTypes := #[]
  resolved := Array.replicate 22 none
  statics := none }

def pool8 : Array CpInfo := pool [(3, .methodref 4 5), (0, .class_ 6), (0, .nameAndType 7 8), (0, u "java/lang/Record"), (0, u "<init>"), (0, u "()V"), (0, .fieldref 10 11), (0, .class_ 12), (0, .nameAndType 13 14), (0, u "com/example/rowforge/rowforge/Column"), (0, u "name"), (0, u "Ljava/lang/String;"), (0, .fieldref 10 16), (0, .nameAndType 17 18), (0, u "position"), (0, u "I"), (0, .fieldref 10 20), (0, .nameAndType 21 22), (0, u "type"), (0, u "Lcom/example/rowforge/rowforge/SqlType;"), (0, .fieldref 10 24), (0, .nameAndType 25 18), (0, u "length"), (0, .fieldref 10 27), (0, .nameAndType 28 18), (0, u "scale"), (0, .fieldref 10 30), (0, .nameAndType 31 32), (0, u "nullable"), (0, u "Z"), (25, u "UNBOUNDED"), (2, u "(Ljava/lang/String;ILcom/example/rowforge/rowforge/SqlType;IIZ)V")] 34

def k8c0 : Code := { maxStack := 2, maxLocals := 7, code := prog_2_method_1_code, exceptionTable := #[], attributes := #[] }
def k8m0 : Method := { name := "<init>", desc := "(Ljava/lang/String;ILcom/example/rowforge/rowforge/SqlType;IIZ)V", sig := { parameters := [(.object "java/lang/String"), .int, (.object "com/example/rowforge/rowforge/SqlType"), .int, .int, .boolean], returnType := none }, accessFlags := 0, code := some k8c0 }
/-- com/example/rowforge/rowforge/Column -/
def k8 : Class := { plain "com/example/rowforge/rowforge/Column" (some 7) with
  accessFlags := 48
  interfaces := #[]
  cf := some (fileOf pool8 10 #[] #[{ accessFlags := 0, nameIndex := 7, descriptorIndex := 61, attributes := #[] }] 48 4 #[] #[{ accessFlags := 18, nameIndex := 13, descriptorIndex := 14, attributes := #[] }, { accessFlags := 18, nameIndex := 17, descriptorIndex := 18, attributes := #[] }, { accessFlags := 18, nameIndex := 21, descriptorIndex := 22, attributes := #[] }, { accessFlags := 18, nameIndex := 25, descriptorIndex := 18, attributes := #[] }, { accessFlags := 18, nameIndex := 28, descriptorIndex := 18, attributes := #[] }, { accessFlags := 18, nameIndex := 31, descriptorIndex := 32, attributes := #[] }, { accessFlags := 24, nameIndex := 58, descriptorIndex := 18, attributes := #[] }])
  fields := #[{ name := "name", type := (.object "java/lang/String"), accessFlags := 18, slot := 0, constantValue := 0 }, { name := "position", type := .int, accessFlags := 18, slot := 1, constantValue := 0 }, { name := "type", type := (.object "com/example/rowforge/rowforge/SqlType"), accessFlags := 18, slot := 2, constantValue := 0 }, { name := "length", type := .int, accessFlags := 18, slot := 3, constantValue := 0 }, { name := "scale", type := .int, accessFlags := 18, slot := 4, constantValue := 0 }, { name := "nullable", type := .boolean, accessFlags := 18, slot := 5, constantValue := 0 }, { name := "UNBOUNDED", type := .int, accessFlags := 24, slot := 0, constantValue := 0 }]
  methods := #[k8m0]
  instanceTypes := #[(.object "java/lang/String"), .int, (.object "com/example/rowforge/rowforge/SqlType"), .int, .int, .boolean]
  staticTypes := #[.int]
  resolved := Array.replicate 96 none
  statics := none }

def pool9 : Array CpInfo := pool [(2, .class_ 4), (1, u "java/lang/CharSequence"), (42, .class_ 48), (0, u "java/lang/CharSequence$1CodePointIterator"), (10, .class_ 60), (0, u "java/lang/CharSequence$1CharIterator"), (5, .class_ 67), (0, u "java/lang/Object")] 63

/-- java/lang/CharSequence -/
def k9 : Class := { plain "java/lang/CharSequence" (some 0) with
  accessFlags := 1537
  interfaces := #[]
  cf := some (fileOf pool9 2 #[.nestMembers #[47, 59]] #[] 1537 66 #[] #[])
  fields := #[]
  methods := #[]
  instanceTypes := #[]
  staticTypes := #[]
  resolved := Array.replicate 131 none
  statics := none }

def pool10 : Array CpInfo := pool [(1, .class_ 2), (0, u "java/lang/constant/ConstantDesc"), (0, .class_ 4), (0, u "java/lang/Object")] 32

/-- java/lang/constant/ConstantDesc -/
def k10 : Class := { plain "java/lang/constant/ConstantDesc" (some 0) with
  accessFlags := 1537
  interfaces := #[]
  cf := some (fileOf pool10 1 #[] #[] 1537 3 #[] #[])
  fields := #[]
  methods := #[]
  instanceTypes := #[]
  staticTypes := #[]
  resolved := Array.replicate 37 none
  statics := none }

def pool11 : Array CpInfo := pool [(1, .methodref 2 3), (0, .class_ 4), (0, .nameAndType 5 6), (0, u "java/lang/Object"), (0, u "<init>"), (0, u "()V"), (2, .fieldref 10 11), (0, .class_ 12), (0, .nameAndType 13 14), (0, u "java/lang/String"), (0, u "value"), (0, u "[B"), (0, .fieldref 10 16), (0, .nameAndType 17 18), (0, u "coder"), (0, u "B"), (2, u "hash"), (0, u "I"), (2, u "hashIsZero"), (0, u "Z"), (11, .fieldref 10 39), (0, .nameAndType 40 26), (0, u "COMPACT_STRINGS"), (12, u "toBytes"), (53, .class_ 109), (1, u "java/lang/StringLatin1"), (99, .methodref 10 210), (0, .nameAndType 5 211), (0, u "([BB)V"), (157, u "(C)Z"), (205, .class_ 576), (0, u "java/lang/CharSequence"), (22, u "CASE_INSENSITIVE_ORDER"), (0, u "Ljava/util/Comparator;"), (181, u "valueOf"), (0, u "(C)Ljava/lang/String;"), (231, .methodref 107 1016), (0, .nameAndType 1017 369), (0, u "canEncode"), (0, .methodref 107 1019), (0, .nameAndType 53 1020), (0, u "(C)[B"), (80, u "serialPersistentFields"), (0, u "[Ljava/io/ObjectStreamField;"), (0, .class_ 1104), (0, u "java/lang/String$CaseInsensitiveComparator"), (1, .class_ 1107), (0, u "java/io/Serializable"), (0, .class_ 1109), (0, u "java/lang/Comparable"), (0, .class_ 1111), (0, u "java/lang/constant/Constable"), (0, .class_ 1113), (0, u "java/lang/constant/ConstantDesc"), (2, u "serialVersionUID"), (0, u "J"), (3, u "REPL"), (0, u "C"), (2, u "LATIN1"), (1, u "UTF16")] 323

def k11m0 : Method := { name := "<init>", desc := "()V", sig := { parameters := [], returnType := none }, accessFlags := 1, code := none }
def k11c1 : Code := { maxStack := 4, maxLocals := 1, code := jdk_42_method_139_code, exceptionTable := #[], attributes := #[] }
def k11m1 : Method := { name := "valueOf", desc := "(C)Ljava/lang/String;", sig := { parameters := [.char], returnType := some (.object "java/lang/String") }, accessFlags := 9, code := some k11c1 }
def k11c2 : Code := { maxStack := 2, maxLocals := 3, code := jdk_42_method_151_code, exceptionTable := #[], attributes := #[] }
def k11m2 : Method := { name := "<init>", desc := "([BB)V", sig := { parameters := [(.array .byte), .byte], returnType := none }, accessFlags := 0, code := some k11c2 }
/-- java/lang/String -/
def k11 : Class := { plain "java/lang/String" (some 0) with
  accessFlags := 49
  interfaces := #[4, 3, 9, 2, 10]
  cf := some (fileOf pool11 10 #[.nestMembers #[1103]] #[{ accessFlags := 1, nameIndex := 5, descriptorIndex := 6, attributes := #[] }, { accessFlags := 9, nameIndex := 782, descriptorIndex := 783, attributes := #[] }, { accessFlags := 0, nameIndex := 5, descriptorIndex := 211, attributes := #[] }] 49 2 #[1106, 1108, 575, 1110, 1112] #[{ accessFlags := 18, nameIndex := 13, descriptorIndex := 14, attributes := #[] }, { accessFlags := 18, nameIndex := 17, descriptorIndex := 18, attributes := #[] }, { accessFlags := 2, nameIndex := 21, descriptorIndex := 22, attributes := #[] }, { accessFlags := 2, nameIndex := 25, descriptorIndex := 26, attributes := #[] }, { accessFlags := 26, nameIndex := 1116, descriptorIndex := 1117, attributes := #[] }, { accessFlags := 24, nameIndex := 40, descriptorIndex := 26, attributes := #[] }, { accessFlags := 26, nameIndex := 1101, descriptorIndex := 1102, attributes := #[] }, { accessFlags := 26, nameIndex := 1121, descriptorIndex := 1122, attributes := #[] }, { accessFlags := 25, nameIndex := 599, descriptorIndex := 600, attributes := #[] }, { accessFlags := 24, nameIndex := 1125, descriptorIndex := 18, attributes := #[] }, { accessFlags := 24, nameIndex := 1127, descriptorIndex := 18, attributes := #[] }])
  fields := #[{ name := "value", type := (.array .byte), accessFlags := 18, slot := 0, constantValue := 0 }, { name := "coder", type := .byte, accessFlags := 18, slot := 1, constantValue := 0 }, { name := "hash", type := .int, accessFlags := 2, slot := 2, constantValue := 0 }, { name := "hashIsZero", type := .boolean, accessFlags := 2, slot := 3, constantValue := 0 }, { name := "serialVersionUID", type := .long, accessFlags := 26, slot := 0, constantValue := 0 }, { name := "COMPACT_STRINGS", type := .boolean, accessFlags := 24, slot := 1, constantValue := 0 }, { name := "serialPersistentFields", type := (.array (.object "java/io/ObjectStreamField")), accessFlags := 26, slot := 2, constantValue := 0 }, { name := "REPL", type := .char, accessFlags := 26, slot := 3, constantValue := 0 }, { name := "CASE_INSENSITIVE_ORDER", type := (.object "java/util/Comparator"), accessFlags := 25, slot := 4, constantValue := 0 }, { name := "LATIN1", type := .byte, accessFlags := 24, slot := 5, constantValue := 0 }, { name := "UTF16", type := .byte, accessFlags := 24, slot := 6, constantValue := 0 }]
  methods := #[k11m0, k11m1, k11m2]
  instanceTypes := #[(.array .byte), .byte, .int, .boolean]
  staticTypes := #[.long, .boolean, (.array (.object "java/io/ObjectStreamField")), .char, (.object "java/util/Comparator"), .byte, .byte]
  resolved := Array.replicate 1451 none
  statics := some 1 }

def pool12 : Array CpInfo := pool [(1, .class_ 2), (0, u "com/example/rowforge/rowforge/Field$Read"), (0, .class_ 4), (0, u "com/example/rowforge/rowforge/Field$Source"), (13, .class_ 19), (0, u "com/example/rowforge/rowforge/Field"), (0, .class_ 21), (0, u "java/lang/Object"), (0, u "COMPUTED"), (0, u "Ljava/lang/String;"), (22, .class_ 47), (0, u "com/example/rowforge/rowforge/Field$Arithmetic"), (0, .class_ 49), (0, u "com/example/rowforge/rowforge/Field$Operator"), (0, .class_ 51), (0, u "com/example/rowforge/rowforge/Field$Constant"), (0, .class_ 53), (0, u "com/example/rowforge/rowforge/Field$ArithmeticFailure")] 8

/-- com/example/rowforge/rowforge/Field -/
def k12 : Class := { plain "com/example/rowforge/rowforge/Field" (some 0) with
  accessFlags := 1536
  interfaces := #[]
  cf := some (fileOf pool12 18 #[.nestMembers #[46, 48, 50, 1, 52, 3]] #[] 1536 20 #[] #[{ accessFlags := 25, nameIndex := 22, descriptorIndex := 23, attributes := #[] }])
  fields := #[{ name := "COMPUTED", type := (.object "java/lang/String"), accessFlags := 25, slot := 0, constantValue := 0 }]
  methods := #[]
  instanceTypes := #[]
  staticTypes := #[(.object "java/lang/String")]
  resolved := Array.replicate 62 none
  statics := none }

def pool13 : Array CpInfo := pool [(1, .methodref 2 3), (0, .class_ 4), (0, .nameAndType 5 6), (0, u "java/lang/Record"), (0, u "<init>"), (0, u "()V"), (0, .fieldref 8 9), (0, .class_ 10), (0, .nameAndType 11 12), (0, u "com/example/rowforge/rowforge/Field$Constant"), (0, u "value"), (0, u "Ljava/lang/Object;"), (0, .fieldref 8 14), (0, .nameAndType 15 16), (0, u "column"), (0, u "Lcom/example/rowforge/rowforge/Column;"), (48, .class_ 66), (0, u "com/example/rowforge/rowforge/Field"), (11, u "(Ljava/lang/Object;Lcom/example/rowforge/rowforge/Column;)V"), (28, u "nullable"), (0, u "()Z"), (0, u "(Ljava/util/List;)Ljava/lang/Object;")] 31

def k13c0 : Code := { maxStack := 2, maxLocals := 3, code := prog_10_method_1_code, exceptionTable := #[], attributes := #[] }
def k13m0 : Method := { name := "<init>", desc := "(Ljava/lang/Object;Lcom/example/rowforge/rowforge/Column;)V", sig := { parameters := [(.object "java/lang/Object"), (.object "com/example/rowforge/rowforge/Column")], returnType := none }, accessFlags := 1, code := some k13c0 }
def k13c1 : Code := { maxStack := 1, maxLocals := 1, code := prog_10_method_4_code, exceptionTable := #[], attributes := #[] }
def k13m1 : Method := { name := "nullable", desc := "()Z", sig := { parameters := [], returnType := some .boolean }, accessFlags := 1, code := some k13c1 }
def k13c2 : Code := { maxStack := 1, maxLocals := 2, code := prog_10_method_5_code, exceptionTable := #[], attributes := #[] }
def k13m2 : Method := { name := "value", desc := "(Ljava/util/List;)Ljava/lang/Object;", sig := { parameters := [(.object "java/util/List")], returnType := some (.object "java/lang/Object") }, accessFlags := 1, code := some k13c2 }
/-- com/example/rowforge/rowforge/Field$Constant -/
def k13 : Class := { plain "com/example/rowforge/rowforge/Field$Constant" (some 7) with
  accessFlags := 49
  interfaces := #[12]
  cf := some (fileOf pool13 8 #[.nestHost 65] #[{ accessFlags := 1, nameIndex := 5, descriptorIndex := 78, attributes := #[] }, { accessFlags := 1, nameIndex := 107, descriptorIndex := 108, attributes := #[] }, { accessFlags := 1, nameIndex := 11, descriptorIndex := 109, attributes := #[] }] 49 2 #[65] #[{ accessFlags := 18, nameIndex := 11, descriptorIndex := 12, attributes := #[] }, { accessFlags := 18, nameIndex := 15, descriptorIndex := 16, attributes := #[] }])
  fields := #[{ name := "value", type := (.object "java/lang/Object"), accessFlags := 18, slot := 0, constantValue := 0 }, { name := "column", type := (.object "com/example/rowforge/rowforge/Column"), accessFlags := 18, slot := 1, constantValue := 0 }]
  methods := #[k13m0, k13m1, k13m2]
  instanceTypes := #[(.object "java/lang/Object"), (.object "com/example/rowforge/rowforge/Column")]
  staticTypes := #[]
  resolved := Array.replicate 141 none
  statics := none }

def pool14 : Array CpInfo := pool [(8, .class_ 10), (1, u "java/lang/Iterable"), (24, .class_ 36), (0, u "java/lang/Object")] 25

/-- java/lang/Iterable -/
def k14 : Class := { plain "java/lang/Iterable" (some 0) with
  accessFlags := 1537
  interfaces := #[]
  cf := some (fileOf pool14 8 #[] #[] 1537 35 #[] #[])
  fields := #[]
  methods := #[]
  instanceTypes := #[]
  staticTypes := #[]
  resolved := Array.replicate 62 none
  statics := none }

def pool15 : Array CpInfo := pool [(10, .class_ 12), (1, u "java/util/Collection"), (47, .class_ 61), (0, u "java/lang/Object"), (0, .class_ 63), (0, u "java/lang/Iterable")] 51

/-- java/util/Collection -/
def k15 : Class := { plain "java/util/Collection" (some 0) with
  accessFlags := 1537
  interfaces := #[14]
  cf := some (fileOf pool15 10 #[] #[] 1537 60 #[62] #[])
  fields := #[]
  methods := #[]
  instanceTypes := #[]
  staticTypes := #[]
  resolved := Array.replicate 115 none
  statics := none }

def pool16 : Array CpInfo := pool [(1, .methodref 2 3), (0, .class_ 4), (0, .nameAndType 5 6), (0, u "java/lang/Object"), (0, u "<init>"), (0, u "()V"), (1, .class_ 10), (1, u "java/util/AbstractCollection"), (66, .class_ 78), (0, u "java/util/Collection")] 81

def k16c0 : Code := { maxStack := 1, maxLocals := 1, code := jdk_22_method_1_code, exceptionTable := #[], attributes := #[] }
def k16m0 : Method := { name := "<init>", desc := "()V", sig := { parameters := [], returnType := none }, accessFlags := 4, code := some k16c0 }
/-- java/util/AbstractCollection -/
def k16 : Class := { plain "java/util/AbstractCollection" (some 0) with
  accessFlags := 1057
  interfaces := #[15]
  cf := some (fileOf pool16 8 #[] #[{ accessFlags := 4, nameIndex := 5, descriptorIndex := 6, attributes := #[] }] 1057 2 #[77] #[])
  fields := #[]
  methods := #[k16m0]
  instanceTypes := #[]
  staticTypes := #[]
  resolved := Array.replicate 160 none
  statics := none }

def pool17 : Array CpInfo := pool [(8, .class_ 10), (1, u "java/util/SequencedCollection"), (15, .class_ 27), (0, u "java/lang/Object"), (0, .class_ 29), (0, u "java/util/Collection")] 27

/-- java/util/SequencedCollection -/
def k17 : Class := { plain "java/util/SequencedCollection" (some 0) with
  accessFlags := 1537
  interfaces := #[15]
  cf := some (fileOf pool17 8 #[] #[] 1537 26 #[28] #[])
  fields := #[]
  methods := #[]
  instanceTypes := #[]
  staticTypes := #[]
  resolved := Array.replicate 57 none
  statics := none }

def pool18 : Array CpInfo := pool [(8, .class_ 10), (1, u "java/util/List"), (92, .class_ 104), (0, u "java/lang/Object"), (15, .class_ 121), (0, u "java/util/SequencedCollection")] 129

/-- java/util/List -/
def k18 : Class := { plain "java/util/List" (some 0) with
  accessFlags := 1537
  interfaces := #[17]
  cf := some (fileOf pool18 8 #[] #[] 1537 103 #[120] #[])
  fields := #[]
  methods := #[]
  instanceTypes := #[]
  staticTypes := #[]
  resolved := Array.replicate 251 none
  statics := none }

def pool19 : Array CpInfo := pool [(1, .methodref 2 3), (0, .class_ 4), (0, .nameAndType 5 6), (0, u "java/util/AbstractCollection"), (0, u "<init>"), (0, u "()V"), (0, .fieldref 8 9), (0, .class_ 10), (0, .nameAndType 11 12), (0, u "java/util/AbstractList"), (0, u "modCount"), (0, u "I"), (64, .class_ 78), (0, u "java/util/AbstractList$Itr"), (3, .class_ 83), (0, u "java/util/AbstractList$ListItr"), (9, .class_ 94), (0, u "java/util/AbstractList$RandomAccessSubList"), (3, .class_ 99), (0, u "java/util/AbstractList$SubList"), (33, .class_ 134), (0, u "java/util/List"), (73, .class_ 209), (0, u "java/util/AbstractList$SubList$1"), (0, .class_ 211), (0, u "java/util/AbstractList$RandomAccessSpliterator")] 6

def k19c0 : Code := { maxStack := 2, maxLocals := 1, code := jdk_39_method_1_code, exceptionTable := #[], attributes := #[] }
def k19m0 : Method := { name := "<init>", desc := "()V", sig := { parameters := [], returnType := none }, accessFlags := 4, code := some k19c0 }
/-- java/util/AbstractList -/
def k19 : Class := { plain "java/util/AbstractList" (some 16) with
  accessFlags := 1057
  interfaces := #[18]
  cf := some (fileOf pool19 8 #[.nestMembers #[93, 98, 208, 210, 82, 77]] #[{ accessFlags := 4, nameIndex := 5, descriptorIndex := 6, attributes := #[] }] 1057 2 #[133] #[{ accessFlags := 132, nameIndex := 11, descriptorIndex := 12, attributes := #[] }])
  fields := #[{ name := "modCount", type := .int, accessFlags := 132, slot := 0, constantValue := 0 }]
  methods := #[k19m0]
  instanceTypes := #[.int]
  staticTypes := #[]
  resolved := Array.replicate 218 none
  statics := none }

def pool20 : Array CpInfo := pool [(1, .class_ 2), (0, u "java/util/RandomAccess"), (0, .class_ 4), (0, u "java/lang/Object")] 2

/-- java/util/RandomAccess -/
def k20 : Class := { plain "java/util/RandomAccess" (some 0) with
  accessFlags := 1537
  interfaces := #[]
  cf := some (fileOf pool20 1 #[] #[] 1537 3 #[] #[])
  fields := #[]
  methods := #[]
  instanceTypes := #[]
  staticTypes := #[]
  resolved := Array.replicate 7 none
  statics := none }

def pool21 : Array CpInfo := pool [(1, .class_ 2), (0, u "java/lang/Cloneable"), (0, .class_ 4), (0, u "java/lang/Object")] 2

/-- java/lang/Cloneable -/
def k21 : Class := { plain "java/lang/Cloneable" (some 0) with
  accessFlags := 1537
  interfaces := #[]
  cf := some (fileOf pool21 1 #[] #[] 1537 3 #[] #[])
  fields := #[]
  methods := #[]
  instanceTypes := #[]
  staticTypes := #[]
  resolved := Array.replicate 7 none
  statics := none }

def pool22 : Array CpInfo := pool [(1, .methodref 2 3), (0, .class_ 4), (0, .nameAndType 5 6), (0, u "java/util/AbstractList"), (0, u "<init>"), (0, u "()V"), (2, .fieldref 10 11), (0, .class_ 12), (0, .nameAndType 13 14), (0, u "java/util/ArrayList"), (0, u "elementData"), (0, u "[Ljava/lang/Object;"), (2, u "EMPTY_ELEMENTDATA"), (21, .fieldref 10 40), (0, .nameAndType 41 14), (0, u "DEFAULTCAPACITY_EMPTY_ELEMENTDATA"), (8, u "size"), (0, u "I"), (96, .class_ 149), (0, u "java/util/List"), (112, .class_ 263), (0, u "java/util/ArrayList$ListItr"), (3, .class_ 268), (0, u "java/util/ArrayList$Itr"), (7, .class_ 277), (0, u "java/util/ArrayList$SubList"), (12, .class_ 291), (0, u "java/util/ArrayList$ArrayListSpliterator"), (37, .class_ 330), (0, u "java/util/RandomAccess"), (0, .class_ 332), (0, u "java/lang/Cloneable"), (0, .class_ 334), (0, u "java/io/Serializable"), (0, u "serialVersionUID"), (0, u "J"), (3, u "DEFAULT_CAPACITY"), (159, .class_ 501), (0, u "java/util/ArrayList$SubList$2"), (0, .class_ 503), (0, u "java/util/ArrayList$SubList$1")] 5

def k22c0 : Code := { maxStack := 2, maxLocals := 1, code := jdk_38_method_2_code, exceptionTable := #[], attributes := #[] }
def k22m0 : Method := { name := "<init>", desc := "()V", sig := { parameters := [], returnType := none }, accessFlags := 1, code := some k22c0 }
/-- java/util/ArrayList -/
def k22 : Class := { plain "java/util/ArrayList" (some 19) with
  accessFlags := 33
  interfaces := #[18, 20, 21, 4]
  cf := some (fileOf pool22 10 #[.nestMembers #[290, 276, 500, 502, 262, 267]] #[{ accessFlags := 1, nameIndex := 5, descriptorIndex := 6, attributes := #[] }] 33 2 #[148, 329, 331, 333] #[{ accessFlags := 26, nameIndex := 335, descriptorIndex := 336, attributes := #[] }, { accessFlags := 26, nameIndex := 340, descriptorIndex := 51, attributes := #[] }, { accessFlags := 26, nameIndex := 17, descriptorIndex := 14, attributes := #[] }, { accessFlags := 26, nameIndex := 41, descriptorIndex := 14, attributes := #[] }, { accessFlags := 128, nameIndex := 13, descriptorIndex := 14, attributes := #[] }, { accessFlags := 2, nameIndex := 50, descriptorIndex := 51, attributes := #[] }])
  fields := #[{ name := "serialVersionUID", type := .long, accessFlags := 26, slot := 0, constantValue := 0 }, { name := "DEFAULT_CAPACITY", type := .int, accessFlags := 26, slot := 1, constantValue := 0 }, { name := "EMPTY_ELEMENTDATA", type := (.array (.object "java/lang/Object")), accessFlags := 26, slot := 2, constantValue := 0 }, { name := "DEFAULTCAPACITY_EMPTY_ELEMENTDATA", type := (.array (.object "java/lang/Object")), accessFlags := 26, slot := 3, constantValue := 0 }, { name := "elementData", type := (.array (.object "java/lang/Object")), accessFlags := 128, slot := 1, constantValue := 0 }, { name := "size", type := .int, accessFlags := 2, slot := 2, constantValue := 0 }]
  methods := #[k22m0]
  instanceTypes := #[.int, (.array (.object "java/lang/Object")), .int]
  staticTypes := #[.long, .int, (.array (.object "java/lang/Object")), (.array (.object "java/lang/Object"))]
  resolved := Array.replicate 509 none
  statics := some 2 }

def pool23 : Array CpInfo := pool [(4, .class_ 6), (1, u "java/lang/Object"), (0, u "<init>"), (0, u "()V"), (5, .class_ 16), (1, u "java/lang/StringLatin1"), (73, u "canEncode"), (14, u "(C)Z"), (15, u "$assertionsDisabled"), (0, u "Z"), (98, .class_ 223), (1, u "java/lang/StringLatin1$LinesSpliterator"), (156, u "toBytes"), (1, u "(C)[B"), (7, .class_ 391), (0, u "java/lang/StringLatin1$CharsSpliterator")] 3

def k23m0 : Method := { name := "<init>", desc := "()V", sig := { parameters := [], returnType := none }, accessFlags := 0, code := none }
def k23c1 : Code := { maxStack := 2, maxLocals := 1, code := jdk_43_method_3_code, exceptionTable := #[], attributes := #[] }
def k23m1 : Method := { name := "canEncode", desc := "(C)Z", sig := { parameters := [.char], returnType := some .boolean }, accessFlags := 9, code := some k23c1 }
def k23c2 : Code := { maxStack := 4, maxLocals := 1, code := jdk_43_method_46_code, exceptionTable := #[], attributes := #[] }
def k23m2 : Method := { name := "toBytes", desc := "(C)[B", sig := { parameters := [.char], returnType := some (.array .byte) }, accessFlags := 9, code := some k23c2 }
/-- java/lang/StringLatin1 -/
def k23 : Class := { plain "java/lang/StringLatin1" (some 0) with
  accessFlags := 48
  interfaces := #[]
  cf := some (fileOf pool23 14 #[.nestMembers #[390, 221]] #[{ accessFlags := 0, nameIndex := 7, descriptorIndex := 8, attributes := #[] }, { accessFlags := 9, nameIndex := 90, descriptorIndex := 105, attributes := #[] }, { accessFlags := 9, nameIndex := 380, descriptorIndex := 382, attributes := #[] }] 48 4 #[] #[{ accessFlags := 4120, nameIndex := 121, descriptorIndex := 122, attributes := #[] }])
  fields := #[{ name := "$assertionsDisabled", type := .boolean, accessFlags := 4120, slot := 0, constantValue := 0 }]
  methods := #[k23m0, k23m1, k23m2]
  instanceTypes := #[]
  staticTypes := #[.boolean]
  resolved := Array.replicate 395 none
  statics := none }

def pool24 : Array CpInfo := pool [(1, .methodref 2 3), (0, .class_ 4), (0, .nameAndType 5 6), (0, u "java/lang/Object"), (0, u "<init>"), (0, u "()V"), (1, .class_ 10), (1, u "java/lang/Number"), (2, .class_ 14), (0, u "java/io/Serializable"), (0, u "serialVersionUID"), (0, u "J")] 20

def k24c0 : Code := { maxStack := 1, maxLocals := 1, code := jdk_18_method_1_code, exceptionTable := #[], attributes := #[] }
def k24m0 : Method := { name := "<init>", desc := "()V", sig := { parameters := [], returnType := none }, accessFlags := 1, code := some k24c0 }
/-- java/lang/Number -/
def k24 : Class := { plain "java/lang/Number" (some 0) with
  accessFlags := 1057
  interfaces := #[4]
  cf := some (fileOf pool24 8 #[] #[{ accessFlags := 1, nameIndex := 5, descriptorIndex := 6, attributes := #[] }] 1057 2 #[13] #[{ accessFlags := 26, nameIndex := 15, descriptorIndex := 16, attributes := #[] }])
  fields := #[{ name := "serialVersionUID", type := .long, accessFlags := 26, slot := 0, constantValue := 0 }]
  methods := #[k24m0]
  instanceTypes := #[]
  staticTypes := #[.long]
  resolved := Array.replicate 37 none
  statics := none }

def pool25 : Array CpInfo := pool [(1, .class_ 2), (0, u "java/lang/Long"), (55, .nameAndType 59 60), (0, u "<init>"), (0, u "()V"), (24, u "valueOf"), (143, u "(J)Ljava/lang/Long;"), (0, .long 18446744073709551488), (1, .long 127), (1, .fieldref 235 236), (0, .class_ 237), (0, .nameAndType 238 239), (0, u "java/lang/Long$LongCache"), (0, u "cache"), (0, u "[Ljava/lang/Long;"), (0, .methodref 1 241), (0, .nameAndType 59 242), (0, u "(J)V"), (27, .methodref 271 58), (0, .class_ 272), (0, u "java/lang/Number"), (0, .fieldref 1 274), (0, .nameAndType 275 276), (0, u "value"), (0, u "J"), (84, u "TYPE"), (0, u "Ljava/lang/Class;"), (0, .class_ 364), (0, u "java/lang/Comparable"), (0, .class_ 366), (0, u "java/lang/constant/Constable"), (0, .class_ 368), (0, u "java/lang/constant/ConstantDesc"), (0, u "MIN_VALUE"), (1, u "MAX_VALUE"), (4, u "SIZE"), (0, u "I"), (1, u "BYTES"), (1, u "serialVersionUID")] 142

def k25c0 : Code := { maxStack := 4, maxLocals := 3, code := jdk_35_method_24_code, exceptionTable := #[], attributes := #[] }
def k25m0 : Method := { name := "valueOf", desc := "(J)Ljava/lang/Long;", sig := { parameters := [.long], returnType := some (.object "java/lang/Long") }, accessFlags := 9, code := some k25c0 }
def k25c1 : Code := { maxStack := 3, maxLocals := 3, code := jdk_35_method_26_code, exceptionTable := #[], attributes := #[] }
def k25m1 : Method := { name := "<init>", desc := "(J)V", sig := { parameters := [.long], returnType := none }, accessFlags := 1, code := some k25c1 }
/-- java/lang/Long -/
def k25 : Class := { plain "java/lang/Long" (some 24) with
  accessFlags := 49
  interfaces := #[3, 2, 10]
  cf := some (fileOf pool25 1 #[.nestMembers #[235]] #[{ accessFlags := 9, nameIndex := 85, descriptorIndex := 229, attributes := #[] }, { accessFlags := 1, nameIndex := 59, descriptorIndex := 242, attributes := #[] }] 49 271 #[363, 365, 367] #[{ accessFlags := 25, nameIndex := 369, descriptorIndex := 276, attributes := #[] }, { accessFlags := 25, nameIndex := 371, descriptorIndex := 276, attributes := #[] }, { accessFlags := 25, nameIndex := 361, descriptorIndex := 362, attributes := #[] }, { accessFlags := 18, nameIndex := 275, descriptorIndex := 276, attributes := #[] }, { accessFlags := 25, nameIndex := 376, descriptorIndex := 377, attributes := #[] }, { accessFlags := 25, nameIndex := 379, descriptorIndex := 377, attributes := #[] }, { accessFlags := 26, nameIndex := 381, descriptorIndex := 276, attributes := #[] }])
  fields := #[{ name := "MIN_VALUE", type := .long, accessFlags := 25, slot := 0, constantValue := 0 }, { name := "MAX_VALUE", type := .long, accessFlags := 25, slot := 1, constantValue := 0 }, { name := "TYPE", type := (.object "java/lang/Class"), accessFlags := 25, slot := 2, constantValue := 0 }, { name := "value", type := .long, accessFlags := 18, slot := 0, constantValue := 0 }, { name := "SIZE", type := .int, accessFlags := 25, slot := 3, constantValue := 0 }, { name := "BYTES", type := .int, accessFlags := 25, slot := 4, constantValue := 0 }, { name := "serialVersionUID", type := .long, accessFlags := 26, slot := 5, constantValue := 0 }]
  methods := #[k25m0, k25m1]
  instanceTypes := #[.long]
  staticTypes := #[.long, .long, (.object "java/lang/Class"), .int, .int, .long]
  resolved := Array.replicate 524 none
  statics := none }

def pool26 : Array CpInfo := pool [(2, .class_ 4), (1, u "java/lang/Object"), (0, u "<init>"), (0, u "()V"), (0, .class_ 8), (0, u "java/lang/Long"), (7, .class_ 18), (1, u "java/lang/Long$LongCache"), (0, u "$assertionsDisabled"), (0, u "Z"), (8, u "archivedCache"), (0, u "[Ljava/lang/Long;"), (7, u "cache")] 24

def k26m0 : Method := { name := "<init>", desc := "()V", sig := { parameters := [], returnType := none }, accessFlags := 2, code := none }
/-- java/lang/Long$LongCache -/
def k26 : Class := { plain "java/lang/Long$LongCache" (some 0) with
  accessFlags := 48
  interfaces := #[]
  cf := some (fileOf pool26 16 #[.nestHost 7] #[{ accessFlags := 2, nameIndex := 5, descriptorIndex := 6, attributes := #[] }] 48 2 #[] #[{ accessFlags := 24, nameIndex := 38, descriptorIndex := 30, attributes := #[] }, { accessFlags := 8, nameIndex := 29, descriptorIndex := 30, attributes := #[] }, { accessFlags := 4120, nameIndex := 19, descriptorIndex := 20, attributes := #[] }])
  fields := #[{ name := "cache", type := (.array (.object "java/lang/Long")), accessFlags := 24, slot := 0, constantValue := 0 }, { name := "archivedCache", type := (.array (.object "java/lang/Long")), accessFlags := 8, slot := 1, constantValue := 0 }, { name := "$assertionsDisabled", type := .boolean, accessFlags := 4120, slot := 2, constantValue := 0 }]
  methods := #[k26m0]
  instanceTypes := #[]
  staticTypes := #[(.array (.object "java/lang/Long")), (.array (.object "java/lang/Long")), .boolean]
  resolved := Array.replicate 63 none
  statics := some 3 }

def pool27 : Array CpInfo := pool [(2, .class_ 4), (1, u "java/lang/Object"), (0, u "<init>"), (0, u "()V"), (17, .class_ 26), (1, u "jdk/internal/util/Preconditions"), (28, .class_ 56), (0, u "jdk/internal/util/Preconditions$4"), (57, .class_ 115), (0, u "jdk/internal/util/Preconditions$1"), (7, u "SIOOBE_FORMATTER"), (0, u "Ljava/util/function/BiFunction;"), (0, .class_ 126), (0, u "jdk/internal/util/Preconditions$2"), (3, u "AIOOBE_FORMATTER"), (0, .class_ 132), (0, u "jdk/internal/util/Preconditions$3"), (3, u "IOOBE_FORMATTER")] 57

def k27m0 : Method := { name := "<init>", desc := "()V", sig := { parameters := [], returnType := none }, accessFlags := 1, code := none }
/-- jdk/internal/util/Preconditions -/
def k27 : Class := { plain "jdk/internal/util/Preconditions" (some 0) with
  accessFlags := 33
  interfaces := #[]
  cf := some (fileOf pool27 24 #[.nestMembers #[55, 131, 125, 114]] #[{ accessFlags := 1, nameIndex := 5, descriptorIndex := 6, attributes := #[] }] 33 2 #[] #[{ accessFlags := 25, nameIndex := 123, descriptorIndex := 124, attributes := #[] }, { accessFlags := 25, nameIndex := 130, descriptorIndex := 124, attributes := #[] }, { accessFlags := 25, nameIndex := 136, descriptorIndex := 124, attributes := #[] }])
  fields := #[{ name := "SIOOBE_FORMATTER", type := (.object "java/util/function/BiFunction"), accessFlags := 25, slot := 0, constantValue := 0 }, { name := "AIOOBE_FORMATTER", type := (.object "java/util/function/BiFunction"), accessFlags := 25, slot := 1, constantValue := 0 }, { name := "IOOBE_FORMATTER", type := (.object "java/util/function/BiFunction"), accessFlags := 25, slot := 2, constantValue := 0 }]
  methods := #[k27m0]
  instanceTypes := #[]
  staticTypes := #[(.object "java/util/function/BiFunction"), (.object "java/util/function/BiFunction"), (.object "java/util/function/BiFunction")]
  resolved := Array.replicate 194 none
  statics := some 4 }

def pool28 : Array CpInfo := pool [(9, u "<init>"), (6, .class_ 18), (1, u "java/lang/Object"), (0, u "()V"), (1, .class_ 23), (1, u "jdk/internal/util/ArraysSupport"), (0, u "LOG2_ARRAY_LONG_INDEX_SCALE"), (0, u "I"), (2, u "U"), (0, u "Ljdk/internal/misc/Unsafe;"), (8, u "BIG_ENDIAN"), (0, u "Z"), (8, u "LOG2_BYTE_BIT_SIZE"), (4, u "LOG2_ARRAY_INT_INDEX_SCALE"), (54, u "JLA"), (0, u "Ljdk/internal/access/JavaLangAccess;"), (11, u "LOG2_ARRAY_BOOLEAN_INDEX_SCALE"), (9, u "LOG2_ARRAY_BYTE_INDEX_SCALE"), (5, u "LOG2_ARRAY_CHAR_INDEX_SCALE"), (5, u "LOG2_ARRAY_SHORT_INDEX_SCALE"), (18, u "LOG2_ARRAY_FLOAT_INDEX_SCALE"), (24, u "LOG2_ARRAY_DOUBLE_INDEX_SCALE"), (89, u "T_BOOLEAN"), (2, u "T_CHAR"), (1, u "T_FLOAT"), (1, u "T_DOUBLE"), (1, u "T_BYTE"), (1, u "T_SHORT"), (1, u "T_INT"), (1, u "T_LONG"), (1, u "SOFT_MAX_ARRAY_LENGTH")] 83

def k28m0 : Method := { name := "<init>", desc := "()V", sig := { parameters := [], returnType := none }, accessFlags := 2, code := none }
/-- jdk/internal/util/ArraysSupport -/
def k28 : Class := { plain "jdk/internal/util/ArraysSupport" (some 0) with
  accessFlags := 33
  interfaces := #[]
  cf := some (fileOf pool28 21 #[] #[{ accessFlags := 2, nameIndex := 9, descriptorIndex := 19, attributes := #[] }] 33 16 #[] #[{ accessFlags := 24, nameIndex := 28, descriptorIndex := 29, attributes := #[] }, { accessFlags := 26, nameIndex := 38, descriptorIndex := 39, attributes := #[] }, { accessFlags := 25, nameIndex := 121, descriptorIndex := 25, attributes := #[] }, { accessFlags := 25, nameIndex := 131, descriptorIndex := 25, attributes := #[] }, { accessFlags := 25, nameIndex := 137, descriptorIndex := 25, attributes := #[] }, { accessFlags := 25, nameIndex := 143, descriptorIndex := 25, attributes := #[] }, { accessFlags := 25, nameIndex := 53, descriptorIndex := 25, attributes := #[] }, { accessFlags := 25, nameIndex := 24, descriptorIndex := 25, attributes := #[] }, { accessFlags := 25, nameIndex := 162, descriptorIndex := 25, attributes := #[] }, { accessFlags := 25, nameIndex := 187, descriptorIndex := 25, attributes := #[] }, { accessFlags := 26, nameIndex := 48, descriptorIndex := 25, attributes := #[] }, { accessFlags := 25, nameIndex := 277, descriptorIndex := 25, attributes := #[] }, { accessFlags := 25, nameIndex := 280, descriptorIndex := 25, attributes := #[] }, { accessFlags := 25, nameIndex := 282, descriptorIndex := 25, attributes := #[] }, { accessFlags := 25, nameIndex := 284, descriptorIndex := 25, attributes := #[] }, { accessFlags := 25, nameIndex := 286, descriptorIndex := 25, attributes := #[] }, { accessFlags := 25, nameIndex := 288, descriptorIndex := 25, attributes := #[] }, { accessFlags := 25, nameIndex := 290, descriptorIndex := 25, attributes := #[] }, { accessFlags := 25, nameIndex := 292, descriptorIndex := 25, attributes := #[] }, { accessFlags := 26, nameIndex := 108, descriptorIndex := 109, attributes := #[] }, { accessFlags := 25, nameIndex := 294, descriptorIndex := 25, attributes := #[] }])
  fields := #[{ name := "U", type := (.object "jdk/internal/misc/Unsafe"), accessFlags := 24, slot := 0, constantValue := 0 }, { name := "BIG_ENDIAN", type := .boolean, accessFlags := 26, slot := 1, constantValue := 0 }, { name := "LOG2_ARRAY_BOOLEAN_INDEX_SCALE", type := .int, accessFlags := 25, slot := 2, constantValue := 0 }, { name := "LOG2_ARRAY_BYTE_INDEX_SCALE", type := .int, accessFlags := 25, slot := 3, constantValue := 0 }, { name := "LOG2_ARRAY_CHAR_INDEX_SCALE", type := .int, accessFlags := 25, slot := 4, constantValue := 0 }, { name := "LOG2_ARRAY_SHORT_INDEX_SCALE", type := .int, accessFlags := 25, slot := 5, constantValue := 0 }, { name := "LOG2_ARRAY_INT_INDEX_SCALE", type := .int, accessFlags := 25, slot := 6, constantValue := 0 }, { name := "LOG2_ARRAY_LONG_INDEX_SCALE", type := .int, accessFlags := 25, slot := 7, constantValue := 0 }, { name := "LOG2_ARRAY_FLOAT_INDEX_SCALE", type := .int, accessFlags := 25, slot := 8, constantValue := 0 }, { name := "LOG2_ARRAY_DOUBLE_INDEX_SCALE", type := .int, accessFlags := 25, slot := 9, constantValue := 0 }, { name := "LOG2_BYTE_BIT_SIZE", type := .int, accessFlags := 26, slot := 10, constantValue := 0 }, { name := "T_BOOLEAN", type := .int, accessFlags := 25, slot := 11, constantValue := 0 }, { name := "T_CHAR", type := .int, accessFlags := 25, slot := 12, constantValue := 0 }, { name := "T_FLOAT", type := .int, accessFlags := 25, slot := 13, constantValue := 0 }, { name := "T_DOUBLE", type := .int, accessFlags := 25, slot := 14, constantValue := 0 }, { name := "T_BYTE", type := .int, accessFlags := 25, slot := 15, constantValue := 0 }, { name := "T_SHORT", type := .int, accessFlags := 25, slot := 16, constantValue := 0 }, { name := "T_INT", type := .int, accessFlags := 25, slot := 17, constantValue := 0 }, { name := "T_LONG", type := .int, accessFlags := 25, slot := 18, constantValue := 0 }, { name := "JLA", type := (.object "jdk/internal/access/JavaLangAccess"), accessFlags := 26, slot := 19, constantValue := 0 }, { name := "SOFT_MAX_ARRAY_LENGTH", type := .int, accessFlags := 25, slot := 20, constantValue := 0 }]
  methods := #[k28m0]
  instanceTypes := #[]
  staticTypes := #[(.object "jdk/internal/misc/Unsafe"), .boolean, .int, .int, .int, .int, .int, .int, .int, .int, .int, .int, .int, .int, .int, .int, .int, .int, .int, (.object "jdk/internal/access/JavaLangAccess"), .int]
  resolved := Array.replicate 378 none
  statics := none }

def pool29 : Array CpInfo := pool [(2, .class_ 4), (1, u "com/example/rowforge/rowforge/SqlType"), (6, .class_ 12), (0, u "com/example/rowforge/rowforge/SqlType$9")] 18

/-- com/example/rowforge/rowforge/SqlType$9 -/
def k29 : Class := { plain "com/example/rowforge/rowforge/SqlType$9" (some 6) with
  accessFlags := 16432
  interfaces := #[]
  cf := some (fileOf pool29 11 #[.nestHost 2] #[] 16432 2 #[] #[])
  fields := #[]
  methods := #[]
  instanceTypes := #[(.object "java/lang/String"), .int, .int, (.object "com/example/rowforge/rowforge/SqlType$Category"), (.object "com/example/rowforge/rowforge/SqlType$Special"), (.object "com/example/rowforge/rowforge/SqlType$Special"), (.object "java/util/List")]
  staticTypes := #[]
  resolved := Array.replicate 31 none
  statics := none }

def pool30 : Array CpInfo := pool [(2, .class_ 4), (1, u "com/example/rowforge/rowforge/SqlType"), (31, .class_ 37), (0, u "com/example/rowforge/rowforge/SqlType$2")] 24

/-- com/example/rowforge/rowforge/SqlType$2 -/
def k30 : Class := { plain "com/example/rowforge/rowforge/SqlType$2" (some 6) with
  accessFlags := 16432
  interfaces := #[]
  cf := some (fileOf pool30 36 #[.nestHost 2] #[] 16432 2 #[] #[])
  fields := #[]
  methods := #[]
  instanceTypes := #[(.object "java/lang/String"), .int, .int, (.object "com/example/rowforge/rowforge/SqlType$Category"), (.object "com/example/rowforge/rowforge/SqlType$Special"), (.object "com/example/rowforge/rowforge/SqlType$Special"), (.object "java/util/List")]
  staticTypes := #[]
  resolved := Array.replicate 62 none
  statics := none }

def pool31 : Array CpInfo := pool [(2, .class_ 4), (1, u "com/example/rowforge/rowforge/SqlType"), (31, .class_ 37), (0, u "com/example/rowforge/rowforge/SqlType$3")] 24

/-- com/example/rowforge/rowforge/SqlType$3 -/
def k31 : Class := { plain "com/example/rowforge/rowforge/SqlType$3" (some 6) with
  accessFlags := 16432
  interfaces := #[]
  cf := some (fileOf pool31 36 #[.nestHost 2] #[] 16432 2 #[] #[])
  fields := #[]
  methods := #[]
  instanceTypes := #[(.object "java/lang/String"), .int, .int, (.object "com/example/rowforge/rowforge/SqlType$Category"), (.object "com/example/rowforge/rowforge/SqlType$Special"), (.object "com/example/rowforge/rowforge/SqlType$Special"), (.object "java/util/List")]
  staticTypes := #[]
  resolved := Array.replicate 62 none
  statics := none }

/-- the primitive byte -/
def k32 : Class := { plain "byte" none with kind := .primitive 'B', accessFlags := 0x411 }
/-- [B -/
def k33 : Class := { plain "[B" (some 0) with kind := .array 32 .byte, interfaces := #[21, 4], accessFlags := 1041 }

/-- the primitive int -/
def k34 : Class := { plain "int" none with kind := .primitive 'I', accessFlags := 0x411 }
/-- [I -/
def k35 : Class := { plain "[I" (some 0) with kind := .array 34 .int, interfaces := #[21, 4], accessFlags := 1041 }

/-- [Ljava/lang/Long; -/
def k36 : Class := { plain "[Ljava/lang/Long;" (some 0) with kind := .array 25 (.object "java/lang/Long"), interfaces := #[21, 4], accessFlags := 1041 }

/-- [Ljava/lang/Object; -/
def k37 : Class := { plain "[Ljava/lang/Object;" (some 0) with kind := .array 0 (.object "java/lang/Object"), interfaces := #[21, 4], accessFlags := 1041 }

def heap : Heap := #[{ cls := 6, slots := #[.null, .ref 7, .ref 8, .null, .null, .null, .null, .null, .ref 6, .long 0, .long 0, .null, .null, .null, .int 0, .int 0, .int 0, .null, .null, .null, .null, .null, .long 0, .long 0, .int 0, .null, .null], vm := .statics 6 },
  { cls := 11, slots := #[.long 0, .int 1, .null, .int 0, .null, .int 0, .int 0], vm := .statics 11 },
  { cls := 22, slots := #[.long 0, .int 0, .ref 265, .ref 266], vm := .statics 22 },
  { cls := 26, slots := #[.ref 5, .null, .int 0], vm := .statics 26 },
  { cls := 27, slots := #[.null, .null, .null], vm := .statics 27 },
  { cls := 36, slots := #[.ref 9, .ref 10, .ref 11, .ref 12, .ref 13, .ref 14, .ref 15, .ref 16, .ref 17, .ref 18, .ref 19, .ref 20, .ref 21, .ref 22, .ref 23, .ref 24, .ref 25, .ref 26, .ref 27, .ref 28, .ref 29, .ref 30, .ref 31, .ref 32, .ref 33, .ref 34, .ref 35, .ref 36, .ref 37, .ref 38, .ref 39, .ref 40, .ref 41, .ref 42, .ref 43, .ref 44, .ref 45, .ref 46, .ref 47, .ref 48, .ref 49, .ref 50, .ref 51, .ref 52, .ref 53, .ref 54, .ref 55, .ref 56, .ref 57, .ref 58, .ref 59, .ref 60, .ref 61, .ref 62, .ref 63, .ref 64, .ref 65, .ref 66, .ref 67, .ref 68, .ref 69, .ref 70, .ref 71, .ref 72, .ref 73, .ref 74, .ref 75, .ref 76, .ref 77, .ref 78, .ref 79, .ref 80, .ref 81, .ref 82, .ref 83, .ref 84, .ref 85, .ref 86, .ref 87, .ref 88, .ref 89, .ref 90, .ref 91, .ref 92, .ref 93, .ref 94, .ref 95, .ref 96, .ref 97, .ref 98, .ref 99, .ref 100, .ref 101, .ref 102, .ref 103, .ref 104, .ref 105, .ref 106, .ref 107, .ref 108, .ref 109, .ref 110, .ref 111, .ref 112, .ref 113, .ref 114, .ref 115, .ref 116, .ref 117, .ref 118, .ref 119, .ref 120, .ref 121, .ref 122, .ref 123, .ref 124, .ref 125, .ref 126, .ref 127, .ref 128, .ref 129, .ref 130, .ref 131, .ref 132, .ref 133, .ref 134, .ref 135, .ref 136, .ref 137, .ref 138, .ref 139, .ref 140, .ref 141, .ref 142, .ref 143, .ref 144, .ref 145, .ref 146, .ref 147, .ref 148, .ref 149, .ref 150, .ref 151, .ref 152, .ref 153, .ref 154, .ref 155, .ref 156, .ref 157, .ref 158, .ref 159, .ref 160, .ref 161, .ref 162, .ref 163, .ref 164, .ref 165, .ref 166, .ref 167, .ref 168, .ref 169, .ref 170, .ref 171, .ref 172, .ref 173, .ref 174, .ref 175, .ref 176, .ref 177, .ref 178, .ref 179, .ref 180, .ref 181, .ref 182, .ref 183, .ref 184, .ref 185, .ref 186, .ref 187, .ref 188, .ref 189, .ref 190, .ref 191, .ref 192, .ref 193, .ref 194, .ref 195, .ref 196, .ref 197, .ref 198, .ref 199, .ref 200, .ref 201, .ref 202, .ref 203, .ref 204, .ref 205, .ref 206, .ref 207, .ref 208, .ref 209, .ref 210, .ref 211, .ref 212, .ref 213, .ref 214, .ref 215, .ref 216, .ref 217, .ref 218, .ref 219, .ref 220, .ref 221, .ref 222, .ref 223, .ref 224, .ref 225, .ref 226, .ref 227, .ref 228, .ref 229, .ref 230, .ref 231, .ref 232, .ref 233, .ref 234, .ref 235, .ref 236, .ref 237, .ref 238, .ref 239, .ref 240, .ref 241, .ref 242, .ref 243, .ref 244, .ref 245, .ref 246, .ref 247, .ref 248, .ref 249, .ref 250, .ref 251, .ref 252, .ref 253, .ref 254, .ref 255, .ref 256, .ref 257, .ref 258, .ref 259, .ref 260, .ref 261, .ref 262, .ref 263, .ref 264], vm := .none },
  { cls := 29, slots := #[.null, .int 0, .int 0, .null, .null, .null, .null], vm := .none },
  { cls := 30, slots := #[.null, .int 0, .int 0, .null, .null, .null, .null], vm := .none },
  { cls := 31, slots := #[.null, .int 0, .int 0, .null, .null, .null, .null], vm := .none },
  { cls := 25, slots := #[.long (-128)], vm := .none },
  { cls := 25, slots := #[.long (-127)], vm := .none },
  { cls := 25, slots := #[.long (-126)], vm := .none },
  { cls := 25, slots := #[.long (-125)], vm := .none },
  { cls := 25, slots := #[.long (-124)], vm := .none },
  { cls := 25, slots := #[.long (-123)], vm := .none },
  { cls := 25, slots := #[.long (-122)], vm := .none },
  { cls := 25, slots := #[.long (-121)], vm := .none },
  { cls := 25, slots := #[.long (-120)], vm := .none },
  { cls := 25, slots := #[.long (-119)], vm := .none },
  { cls := 25, slots := #[.long (-118)], vm := .none },
  { cls := 25, slots := #[.long (-117)], vm := .none },
  { cls := 25, slots := #[.long (-116)], vm := .none },
  { cls := 25, slots := #[.long (-115)], vm := .none },
  { cls := 25, slots := #[.long (-114)], vm := .none },
  { cls := 25, slots := #[.long (-113)], vm := .none },
  { cls := 25, slots := #[.long (-112)], vm := .none },
  { cls := 25, slots := #[.long (-111)], vm := .none },
  { cls := 25, slots := #[.long (-110)], vm := .none },
  { cls := 25, slots := #[.long (-109)], vm := .none },
  { cls := 25, slots := #[.long (-108)], vm := .none },
  { cls := 25, slots := #[.long (-107)], vm := .none },
  { cls := 25, slots := #[.long (-106)], vm := .none },
  { cls := 25, slots := #[.long (-105)], vm := .none },
  { cls := 25, slots := #[.long (-104)], vm := .none },
  { cls := 25, slots := #[.long (-103)], vm := .none },
  { cls := 25, slots := #[.long (-102)], vm := .none },
  { cls := 25, slots := #[.long (-101)], vm := .none },
  { cls := 25, slots := #[.long (-100)], vm := .none },
  { cls := 25, slots := #[.long (-99)], vm := .none },
  { cls := 25, slots := #[.long (-98)], vm := .none },
  { cls := 25, slots := #[.long (-97)], vm := .none },
  { cls := 25, slots := #[.long (-96)], vm := .none },
  { cls := 25, slots := #[.long (-95)], vm := .none },
  { cls := 25, slots := #[.long (-94)], vm := .none },
  { cls := 25, slots := #[.long (-93)], vm := .none },
  { cls := 25, slots := #[.long (-92)], vm := .none },
  { cls := 25, slots := #[.long (-91)], vm := .none },
  { cls := 25, slots := #[.long (-90)], vm := .none },
  { cls := 25, slots := #[.long (-89)], vm := .none },
  { cls := 25, slots := #[.long (-88)], vm := .none },
  { cls := 25, slots := #[.long (-87)], vm := .none },
  { cls := 25, slots := #[.long (-86)], vm := .none },
  { cls := 25, slots := #[.long (-85)], vm := .none },
  { cls := 25, slots := #[.long (-84)], vm := .none },
  { cls := 25, slots := #[.long (-83)], vm := .none },
  { cls := 25, slots := #[.long (-82)], vm := .none },
  { cls := 25, slots := #[.long (-81)], vm := .none },
  { cls := 25, slots := #[.long (-80)], vm := .none },
  { cls := 25, slots := #[.long (-79)], vm := .none },
  { cls := 25, slots := #[.long (-78)], vm := .none },
  { cls := 25, slots := #[.long (-77)], vm := .none },
  { cls := 25, slots := #[.long (-76)], vm := .none },
  { cls := 25, slots := #[.long (-75)], vm := .none },
  { cls := 25, slots := #[.long (-74)], vm := .none },
  { cls := 25, slots := #[.long (-73)], vm := .none },
  { cls := 25, slots := #[.long (-72)], vm := .none },
  { cls := 25, slots := #[.long (-71)], vm := .none },
  { cls := 25, slots := #[.long (-70)], vm := .none },
  { cls := 25, slots := #[.long (-69)], vm := .none },
  { cls := 25, slots := #[.long (-68)], vm := .none },
  { cls := 25, slots := #[.long (-67)], vm := .none },
  { cls := 25, slots := #[.long (-66)], vm := .none },
  { cls := 25, slots := #[.long (-65)], vm := .none },
  { cls := 25, slots := #[.long (-64)], vm := .none },
  { cls := 25, slots := #[.long (-63)], vm := .none },
  { cls := 25, slots := #[.long (-62)], vm := .none },
  { cls := 25, slots := #[.long (-61)], vm := .none },
  { cls := 25, slots := #[.long (-60)], vm := .none },
  { cls := 25, slots := #[.long (-59)], vm := .none },
  { cls := 25, slots := #[.long (-58)], vm := .none },
  { cls := 25, slots := #[.long (-57)], vm := .none },
  { cls := 25, slots := #[.long (-56)], vm := .none },
  { cls := 25, slots := #[.long (-55)], vm := .none },
  { cls := 25, slots := #[.long (-54)], vm := .none },
  { cls := 25, slots := #[.long (-53)], vm := .none },
  { cls := 25, slots := #[.long (-52)], vm := .none },
  { cls := 25, slots := #[.long (-51)], vm := .none },
  { cls := 25, slots := #[.long (-50)], vm := .none },
  { cls := 25, slots := #[.long (-49)], vm := .none },
  { cls := 25, slots := #[.long (-48)], vm := .none },
  { cls := 25, slots := #[.long (-47)], vm := .none },
  { cls := 25, slots := #[.long (-46)], vm := .none },
  { cls := 25, slots := #[.long (-45)], vm := .none },
  { cls := 25, slots := #[.long (-44)], vm := .none },
  { cls := 25, slots := #[.long (-43)], vm := .none },
  { cls := 25, slots := #[.long (-42)], vm := .none },
  { cls := 25, slots := #[.long (-41)], vm := .none },
  { cls := 25, slots := #[.long (-40)], vm := .none },
  { cls := 25, slots := #[.long (-39)], vm := .none },
  { cls := 25, slots := #[.long (-38)], vm := .none },
  { cls := 25, slots := #[.long (-37)], vm := .none },
  { cls := 25, slots := #[.long (-36)], vm := .none },
  { cls := 25, slots := #[.long (-35)], vm := .none },
  { cls := 25, slots := #[.long (-34)], vm := .none },
  { cls := 25, slots := #[.long (-33)], vm := .none },
  { cls := 25, slots := #[.long (-32)], vm := .none },
  { cls := 25, slots := #[.long (-31)], vm := .none },
  { cls := 25, slots := #[.long (-30)], vm := .none },
  { cls := 25, slots := #[.long (-29)], vm := .none },
  { cls := 25, slots := #[.long (-28)], vm := .none },
  { cls := 25, slots := #[.long (-27)], vm := .none },
  { cls := 25, slots := #[.long (-26)], vm := .none },
  { cls := 25, slots := #[.long (-25)], vm := .none },
  { cls := 25, slots := #[.long (-24)], vm := .none },
  { cls := 25, slots := #[.long (-23)], vm := .none },
  { cls := 25, slots := #[.long (-22)], vm := .none },
  { cls := 25, slots := #[.long (-21)], vm := .none },
  { cls := 25, slots := #[.long (-20)], vm := .none },
  { cls := 25, slots := #[.long (-19)], vm := .none },
  { cls := 25, slots := #[.long (-18)], vm := .none },
  { cls := 25, slots := #[.long (-17)], vm := .none },
  { cls := 25, slots := #[.long (-16)], vm := .none },
  { cls := 25, slots := #[.long (-15)], vm := .none },
  { cls := 25, slots := #[.long (-14)], vm := .none },
  { cls := 25, slots := #[.long (-13)], vm := .none },
  { cls := 25, slots := #[.long (-12)], vm := .none },
  { cls := 25, slots := #[.long (-11)], vm := .none },
  { cls := 25, slots := #[.long (-10)], vm := .none },
  { cls := 25, slots := #[.long (-9)], vm := .none },
  { cls := 25, slots := #[.long (-8)], vm := .none },
  { cls := 25, slots := #[.long (-7)], vm := .none },
  { cls := 25, slots := #[.long (-6)], vm := .none },
  { cls := 25, slots := #[.long (-5)], vm := .none },
  { cls := 25, slots := #[.long (-4)], vm := .none },
  { cls := 25, slots := #[.long (-3)], vm := .none },
  { cls := 25, slots := #[.long (-2)], vm := .none },
  { cls := 25, slots := #[.long (-1)], vm := .none },
  { cls := 25, slots := #[.long 0], vm := .none },
  { cls := 25, slots := #[.long 1], vm := .none },
  { cls := 25, slots := #[.long 2], vm := .none },
  { cls := 25, slots := #[.long 3], vm := .none },
  { cls := 25, slots := #[.long 4], vm := .none },
  { cls := 25, slots := #[.long 5], vm := .none },
  { cls := 25, slots := #[.long 6], vm := .none },
  { cls := 25, slots := #[.long 7], vm := .none },
  { cls := 25, slots := #[.long 8], vm := .none },
  { cls := 25, slots := #[.long 9], vm := .none },
  { cls := 25, slots := #[.long 10], vm := .none },
  { cls := 25, slots := #[.long 11], vm := .none },
  { cls := 25, slots := #[.long 12], vm := .none },
  { cls := 25, slots := #[.long 13], vm := .none },
  { cls := 25, slots := #[.long 14], vm := .none },
  { cls := 25, slots := #[.long 15], vm := .none },
  { cls := 25, slots := #[.long 16], vm := .none },
  { cls := 25, slots := #[.long 17], vm := .none },
  { cls := 25, slots := #[.long 18], vm := .none },
  { cls := 25, slots := #[.long 19], vm := .none },
  { cls := 25, slots := #[.long 20], vm := .none },
  { cls := 25, slots := #[.long 21], vm := .none },
  { cls := 25, slots := #[.long 22], vm := .none },
  { cls := 25, slots := #[.long 23], vm := .none },
  { cls := 25, slots := #[.long 24], vm := .none },
  { cls := 25, slots := #[.long 25], vm := .none },
  { cls := 25, slots := #[.long 26], vm := .none },
  { cls := 25, slots := #[.long 27], vm := .none },
  { cls := 25, slots := #[.long 28], vm := .none },
  { cls := 25, slots := #[.long 29], vm := .none },
  { cls := 25, slots := #[.long 30], vm := .none },
  { cls := 25, slots := #[.long 31], vm := .none },
  { cls := 25, slots := #[.long 32], vm := .none },
  { cls := 25, slots := #[.long 33], vm := .none },
  { cls := 25, slots := #[.long 34], vm := .none },
  { cls := 25, slots := #[.long 35], vm := .none },
  { cls := 25, slots := #[.long 36], vm := .none },
  { cls := 25, slots := #[.long 37], vm := .none },
  { cls := 25, slots := #[.long 38], vm := .none },
  { cls := 25, slots := #[.long 39], vm := .none },
  { cls := 25, slots := #[.long 40], vm := .none },
  { cls := 25, slots := #[.long 41], vm := .none },
  { cls := 25, slots := #[.long 42], vm := .none },
  { cls := 25, slots := #[.long 43], vm := .none },
  { cls := 25, slots := #[.long 44], vm := .none },
  { cls := 25, slots := #[.long 45], vm := .none },
  { cls := 25, slots := #[.long 46], vm := .none },
  { cls := 25, slots := #[.long 47], vm := .none },
  { cls := 25, slots := #[.long 48], vm := .none },
  { cls := 25, slots := #[.long 49], vm := .none },
  { cls := 25, slots := #[.long 50], vm := .none },
  { cls := 25, slots := #[.long 51], vm := .none },
  { cls := 25, slots := #[.long 52], vm := .none },
  { cls := 25, slots := #[.long 53], vm := .none },
  { cls := 25, slots := #[.long 54], vm := .none },
  { cls := 25, slots := #[.long 55], vm := .none },
  { cls := 25, slots := #[.long 56], vm := .none },
  { cls := 25, slots := #[.long 57], vm := .none },
  { cls := 25, slots := #[.long 58], vm := .none },
  { cls := 25, slots := #[.long 59], vm := .none },
  { cls := 25, slots := #[.long 60], vm := .none },
  { cls := 25, slots := #[.long 61], vm := .none },
  { cls := 25, slots := #[.long 62], vm := .none },
  { cls := 25, slots := #[.long 63], vm := .none },
  { cls := 25, slots := #[.long 64], vm := .none },
  { cls := 25, slots := #[.long 65], vm := .none },
  { cls := 25, slots := #[.long 66], vm := .none },
  { cls := 25, slots := #[.long 67], vm := .none },
  { cls := 25, slots := #[.long 68], vm := .none },
  { cls := 25, slots := #[.long 69], vm := .none },
  { cls := 25, slots := #[.long 70], vm := .none },
  { cls := 25, slots := #[.long 71], vm := .none },
  { cls := 25, slots := #[.long 72], vm := .none },
  { cls := 25, slots := #[.long 73], vm := .none },
  { cls := 25, slots := #[.long 74], vm := .none },
  { cls := 25, slots := #[.long 75], vm := .none },
  { cls := 25, slots := #[.long 76], vm := .none },
  { cls := 25, slots := #[.long 77], vm := .none },
  { cls := 25, slots := #[.long 78], vm := .none },
  { cls := 25, slots := #[.long 79], vm := .none },
  { cls := 25, slots := #[.long 80], vm := .none },
  { cls := 25, slots := #[.long 81], vm := .none },
  { cls := 25, slots := #[.long 82], vm := .none },
  { cls := 25, slots := #[.long 83], vm := .none },
  { cls := 25, slots := #[.long 84], vm := .none },
  { cls := 25, slots := #[.long 85], vm := .none },
  { cls := 25, slots := #[.long 86], vm := .none },
  { cls := 25, slots := #[.long 87], vm := .none },
  { cls := 25, slots := #[.long 88], vm := .none },
  { cls := 25, slots := #[.long 89], vm := .none },
  { cls := 25, slots := #[.long 90], vm := .none },
  { cls := 25, slots := #[.long 91], vm := .none },
  { cls := 25, slots := #[.long 92], vm := .none },
  { cls := 25, slots := #[.long 93], vm := .none },
  { cls := 25, slots := #[.long 94], vm := .none },
  { cls := 25, slots := #[.long 95], vm := .none },
  { cls := 25, slots := #[.long 96], vm := .none },
  { cls := 25, slots := #[.long 97], vm := .none },
  { cls := 25, slots := #[.long 98], vm := .none },
  { cls := 25, slots := #[.long 99], vm := .none },
  { cls := 25, slots := #[.long 100], vm := .none },
  { cls := 25, slots := #[.long 101], vm := .none },
  { cls := 25, slots := #[.long 102], vm := .none },
  { cls := 25, slots := #[.long 103], vm := .none },
  { cls := 25, slots := #[.long 104], vm := .none },
  { cls := 25, slots := #[.long 105], vm := .none },
  { cls := 25, slots := #[.long 106], vm := .none },
  { cls := 25, slots := #[.long 107], vm := .none },
  { cls := 25, slots := #[.long 108], vm := .none },
  { cls := 25, slots := #[.long 109], vm := .none },
  { cls := 25, slots := #[.long 110], vm := .none },
  { cls := 25, slots := #[.long 111], vm := .none },
  { cls := 25, slots := #[.long 112], vm := .none },
  { cls := 25, slots := #[.long 113], vm := .none },
  { cls := 25, slots := #[.long 114], vm := .none },
  { cls := 25, slots := #[.long 115], vm := .none },
  { cls := 25, slots := #[.long 116], vm := .none },
  { cls := 25, slots := #[.long 117], vm := .none },
  { cls := 25, slots := #[.long 118], vm := .none },
  { cls := 25, slots := #[.long 119], vm := .none },
  { cls := 25, slots := #[.long 120], vm := .none },
  { cls := 25, slots := #[.long 121], vm := .none },
  { cls := 25, slots := #[.long 122], vm := .none },
  { cls := 25, slots := #[.long 123], vm := .none },
  { cls := 25, slots := #[.long 124], vm := .none },
  { cls := 25, slots := #[.long 125], vm := .none },
  { cls := 25, slots := #[.long 126], vm := .none },
  { cls := 25, slots := #[.long 127], vm := .none },
  { cls := 37, slots := #[], vm := .none },
  { cls := 37, slots := #[], vm := .none }]
def classes : Array Class := #[k0, k1, k2, k3, k4, k5, k6, k7, k8, k9, k10, k11, k12, k13, k14, k15, k16, k17, k18, k19, k20, k21, k22, k23, k24, k25, k26, k27, k28, k29, k30, k31, k32, k33, k34, k35, k36, k37]
def interned : List (Array UInt16 × Addr) := []
def slotsUsed : Nat := 577
def theMethod : MethodId := ⟨1, 1⟩
def args0 : Array Value := #[.int 1, .long 5, .int 2, .int 7]
def aboutOver (below : List Frame) : State where
  vm := { classes := classes, interned := interned.toArray }
  heap := heap
  slotsUsed := slotsUsed
  threads := #[{ frames := .invoking theMethod args0 :: below }]
def below0 : List Frame := [.native { method := ⟨0, 0⟩, args := #[] }]
def about1 : State := aboutOver below0
def p0 : Program := .bare "" "" ""
def e0 : Env := launch0.env 0 0 0
theorem w_frames : about1.frames = Frame.invoking theMethod args0 :: below0 := rfl
set_option maxRecDepth 65536 in
theorem w_args : argsFit about1.vm theMethod args0 = true := by decide +kernel
set_option maxRecDepth 65536 in
theorem w_heap : heapFits about1 = true := by decide +kernel
set_option maxRecDepth 65536 in
theorem w_runnable : about1.curStatus? = some .runnable := by decide +kernel
set_option maxRecDepth 65536 in
theorem w_alone : about1.alone = true := by decide +kernel
set_option maxRecDepth 65536 in
theorem w_named : about1.methodNamed? x = some theMethod := by decide +kernel
set_option maxRecDepth 65536 in
theorem w_hears : about1.hears theMethod below0 = true := by decide +kernel
set_option maxRecDepth 65536 in
theorem w_ripe : about1.ripe theMethod args0 below0 = true := by decide +kernel
theorem w_running : about1.status = .running := rfl
set_option maxRecDepth 65536 in
theorem w_room : about1.hasRoom e0.platform room_1 = true :=
  launch0.hasRoom_least _ room_1 (by decide +kernel) (by decide +kernel) (by decide +kernel) (by decide +kernel) (by decide +kernel) (by decide +kernel)
theorem allAtoms_all (ts : List Jvm.Cond) (a : Array Jvm.Value) (st : Jvm.State) : (allAtoms ts).before a st = ts.all (fun c => c.before a st) := by
  induction ts with
  | nil => rfl
  | cons c t ih =>
    show (Jvm.Cond.and c (allAtoms t)).before a st = _
    rw [Jvm.Cond.before_and, ih, List.all_cons]
def words1 : List Jvm.Cond := Jvm.Cond.code x code maxLocals ret :: tables_1
/-- a 'code' word, met by the world's own term for the bytes: nothing is compared byte by byte -/
theorem code_word {y : MethodName} {bytes : ByteArray} {mx : Nat} {rt : Option FieldType} {a : Array Value} {s : State} {m : MethodId} {meth : Method} {c : Code} (h1 : s.methodNamed? y = some m) (h2 : s.vm.method? m = some meth) (h3 : meth.code = some c) (h4 : c.code = bytes)
    (h5 : (c.maxLocals == mx && c.exceptionTable.isEmpty && decide (c.maxStack ≤ mostOperands) && decide (meth.sig.returnType = rt) && !meth.locks && decide (parseMethodDescriptor y.desc = some meth.sig)) = true) : (Jvm.Cond.code y bytes mx rt).before a s = true := by
  simp only [Bool.and_eq_true, beq_iff_eq, Bool.not_eq_true', decide_eq_true_eq] at h5
  obtain ⟨⟨⟨⟨⟨g1, g2⟩, g3⟩, g4⟩, g5⟩, g6⟩ := h5
  simp [Cond.before, Cond.holds, Cond.value, h1, h2, h3, h4, g1, g2, g3, g4, g5, g6]
def isCode : Jvm.Cond → Bool
  | .code _ _ _ _ => true
  | _ => false
theorem all_split {L : List Jvm.Cond} {P : Jvm.Cond → Bool} (h1 : L.all (fun c => isCode c || P c) = true) (h2 : ∀ c ∈ L.filter isCode, P c = true) : L.all P = true := by
  refine List.all_eq_true.mpr fun c hc => ?_
  have h := List.all_eq_true.mp h1 c hc
  rcases Bool.eq_false_or_eq_true (isCode c) with hi | hi
  · exact h2 c (List.mem_filter.mpr ⟨hc, hi⟩)
  · simpa [hi] using h
set_option maxRecDepth 65536 in
theorem w_c0 : (Jvm.Cond.code x code maxLocals ret).before args0 about1 = true := code_word (m := ⟨1, 1⟩) (meth := k1m1) (c := k1c1) (by decide +kernel) rfl rfl rfl (by decide +kernel)
set_option maxRecDepth 65536 in
theorem w_c1 : (Jvm.Cond.code ({ cls := "com/example/rowforge/rowforge/Column", name := "<init>", desc := "(Ljava/lang/String;ILcom/example/rowforge/rowforge/SqlType;IIZ)V" } : Jvm.MethodName) prog_2_method_1_code (7 : Nat) (Option.none : Option Jvm.ClassFile.FieldType)).before args0 about1 = true := code_word (m := ⟨8, 0⟩) (meth := k8m0) (c := k8c0) (by decide +kernel) rfl rfl rfl (by decide +kernel)
set_option maxRecDepth 65536 in
theorem w_c2 : (Jvm.Cond.code ({ cls := "java/lang/Record", name := "<init>", desc := "()V" } : Jvm.MethodName) jdk_30_method_1_code (1 : Nat) (Option.none : Option Jvm.ClassFile.FieldType)).before args0 about1 = true := code_word (m := ⟨7, 0⟩) (meth := k7m0) (c := k7c0) (by decide +kernel) rfl rfl rfl (by decide +kernel)
set_option maxRecDepth 65536 in
theorem w_c3 : (Jvm.Cond.code ({ cls := "java/lang/Object", name := "<init>", desc := "()V" } : Jvm.MethodName) object_method_1_code (1 : Nat) (Option.none : Option Jvm.ClassFile.FieldType)).before args0 about1 = true := code_word (m := ⟨0, 0⟩) (meth := k0m0) (c := k0c0) (by decide +kernel) rfl rfl rfl (by decide +kernel)
set_option maxRecDepth 65536 in
theorem w_c4 : (Jvm.Cond.code ({ cls := "com/example/rowforge/rowforge/Field$Constant", name := "<init>", desc := "(Ljava/lang/Object;Lcom/example/rowforge/rowforge/Column;)V" } : Jvm.MethodName) prog_10_method_1_code (3 : Nat) (Option.none : Option Jvm.ClassFile.FieldType)).before args0 about1 = true := code_word (m := ⟨13, 0⟩) (meth := k13m0) (c := k13c0) (by decide +kernel) rfl rfl rfl (by decide +kernel)
set_option maxRecDepth 65536 in
theorem w_c5 : (Jvm.Cond.code ({ cls := "java/util/ArrayList", name := "<init>", desc := "()V" } : Jvm.MethodName) jdk_38_method_2_code (1 : Nat) (Option.none : Option Jvm.ClassFile.FieldType)).before args0 about1 = true := code_word (m := ⟨22, 0⟩) (meth := k22m0) (c := k22c0) (by decide +kernel) rfl rfl rfl (by decide +kernel)
set_option maxRecDepth 65536 in
theorem w_c6 : (Jvm.Cond.code ({ cls := "java/util/AbstractList", name := "<init>", desc := "()V" } : Jvm.MethodName) jdk_39_method_1_code (1 : Nat) (Option.none : Option Jvm.ClassFile.FieldType)).before args0 about1 = true := code_word (m := ⟨19, 0⟩) (meth := k19m0) (c := k19c0) (by decide +kernel) rfl rfl rfl (by decide +kernel)
set_option maxRecDepth 65536 in
theorem w_c7 : (Jvm.Cond.code ({ cls := "java/util/AbstractCollection", name := "<init>", desc := "()V" } : Jvm.MethodName) jdk_22_method_1_code (1 : Nat) (Option.none : Option Jvm.ClassFile.FieldType)).before args0 about1 = true := code_word (m := ⟨16, 0⟩) (meth := k16m0) (c := k16c0) (by decide +kernel) rfl rfl rfl (by decide +kernel)
set_option maxRecDepth 65536 in
theorem w_c8 : (Jvm.Cond.code ({ cls := "com/example/rowforge/rowforge/Field$Constant", name := "nullable", desc := "()Z" } : Jvm.MethodName) prog_10_method_4_code (1 : Nat) (Option.some Jvm.ClassFile.FieldType.boolean)).before args0 about1 = true := code_word (m := ⟨13, 1⟩) (meth := k13m1) (c := k13c1) (by decide +kernel) rfl rfl rfl (by decide +kernel)
set_option maxRecDepth 65536 in
theorem w_c9 : (Jvm.Cond.code ({ cls := "com/example/rowforge/rowforge/Field$Constant", name := "value", desc := "(Ljava/util/List;)Ljava/lang/Object;" } : Jvm.MethodName) prog_10_method_5_code (2 : Nat) (Option.some (Jvm.ClassFile.FieldType.object "java/lang/Object"))).before args0 about1 = true := code_word (m := ⟨13, 2⟩) (meth := k13m2) (c := k13c2) (by decide +kernel) rfl rfl rfl (by decide +kernel)
set_option maxRecDepth 65536 in
theorem w_c10 : (Jvm.Cond.code ({ cls := "java/lang/String", name := "valueOf", desc := "(C)Ljava/lang/String;" } : Jvm.MethodName) jdk_42_method_139_code (1 : Nat) (Option.some (Jvm.ClassFile.FieldType.object "java/lang/String"))).before args0 about1 = true := code_word (m := ⟨11, 1⟩) (meth := k11m1) (c := k11c1) (by decide +kernel) rfl rfl rfl (by decide +kernel)
set_option maxRecDepth 65536 in
theorem w_c11 : (Jvm.Cond.code ({ cls := "java/lang/StringLatin1", name := "canEncode", desc := "(C)Z" } : Jvm.MethodName) jdk_43_method_3_code (1 : Nat) (Option.some Jvm.ClassFile.FieldType.boolean)).before args0 about1 = true := code_word (m := ⟨23, 1⟩) (meth := k23m1) (c := k23c1) (by decide +kernel) rfl rfl rfl (by decide +kernel)
set_option maxRecDepth 65536 in
theorem w_c12 : (Jvm.Cond.code ({ cls := "java/lang/StringLatin1", name := "toBytes", desc := "(C)[B" } : Jvm.MethodName) jdk_43_method_46_code (1 : Nat) (Option.some (Jvm.ClassFile.FieldType.array Jvm.ClassFile.FieldType.byte))).before args0 about1 = true := code_word (m := ⟨23, 2⟩) (meth := k23m2) (c := k23c2) (by decide +kernel) rfl rfl rfl (by decide +kernel)
set_option maxRecDepth 65536 in
theorem w_c13 : (Jvm.Cond.code ({ cls := "java/lang/String", name := "<init>", desc := "([BB)V" } : Jvm.MethodName) jdk_42_method_151_code (3 : Nat) (Option.none : Option Jvm.ClassFile.FieldType)).before args0 about1 = true := code_word (m := ⟨11, 2⟩) (meth := k11m2) (c := k11c2) (by decide +kernel) rfl rfl rfl (by decide +kernel)
set_option maxRecDepth 65536 in
theorem w_c14 : (Jvm.Cond.code ({ cls := "java/lang/Long", name := "valueOf", desc := "(J)Ljava/lang/Long;" } : Jvm.MethodName) jdk_35_method_24_code (3 : Nat) (Option.some (Jvm.ClassFile.FieldType.object "java/lang/Long"))).before args0 about1 = true := code_word (m := ⟨25, 0⟩) (meth := k25m0) (c := k25c0) (by decide +kernel) rfl rfl rfl (by decide +kernel)
set_option maxRecDepth 65536 in
theorem w_c15 : (Jvm.Cond.code ({ cls := "java/lang/Long", name := "<init>", desc := "(J)V" } : Jvm.MethodName) jdk_35_method_26_code (3 : Nat) (Option.none : Option Jvm.ClassFile.FieldType)).before args0 about1 = true := code_word (m := ⟨25, 1⟩) (meth := k25m1) (c := k25c1) (by decide +kernel) rfl rfl rfl (by decide +kernel)
set_option maxRecDepth 65536 in
theorem w_c16 : (Jvm.Cond.code ({ cls := "java/lang/Number", name := "<init>", desc := "()V" } : Jvm.MethodName) jdk_18_method_1_code (1 : Nat) (Option.none : Option Jvm.ClassFile.FieldType)).before args0 about1 = true := code_word (m := ⟨24, 0⟩) (meth := k24m0) (c := k24c0) (by decide +kernel) rfl rfl rfl (by decide +kernel)
def codes1 : List Jvm.Cond := [Jvm.Cond.code x code maxLocals ret, Jvm.Cond.code ({ cls := "com/example/rowforge/rowforge/Column", name := "<init>", desc := "(Ljava/lang/String;ILcom/example/rowforge/rowforge/SqlType;IIZ)V" } : Jvm.MethodName) prog_2_method_1_code (7 : Nat) (Option.none : Option Jvm.ClassFile.FieldType), Jvm.Cond.code ({ cls := "java/lang/Record", name := "<init>", desc := "()V" } : Jvm.MethodName) jdk_30_method_1_code (1 : Nat) (Option.none : Option Jvm.ClassFile.FieldType), Jvm.Cond.code ({ cls := "java/lang/Object", name := "<init>", desc := "()V" } : Jvm.MethodName) object_method_1_code (1 : Nat) (Option.none : Option Jvm.ClassFile.FieldType), Jvm.Cond.code ({ cls := "com/example/rowforge/rowforge/Field$Constant", name := "<init>", desc := "(Ljava/lang/Object;Lcom/example/rowforge/rowforge/Column;)V" } : Jvm.MethodName) prog_10_method_1_code (3 : Nat) (Option.none : Option Jvm.ClassFile.FieldType), Jvm.Cond.code ({ cls := "java/util/ArrayList", name := "<init>", desc := "()V" } : Jvm.MethodName) jdk_38_method_2_code (1 : Nat) (Option.none : Option Jvm.ClassFile.FieldType), Jvm.Cond.code ({ cls := "java/util/AbstractList", name := "<init>", desc := "()V" } : Jvm.MethodName) jdk_39_method_1_code (1 : Nat) (Option.none : Option Jvm.ClassFile.FieldType), Jvm.Cond.code ({ cls := "java/util/AbstractCollection", name := "<init>", desc := "()V" } : Jvm.MethodName) jdk_22_method_1_code (1 : Nat) (Option.none : Option Jvm.ClassFile.FieldType), Jvm.Cond.code ({ cls := "com/example/rowforge/rowforge/Field$Constant", name := "nullable", desc := "()Z" } : Jvm.MethodName) prog_10_method_4_code (1 : Nat) (Option.some Jvm.ClassFile.FieldType.boolean), Jvm.Cond.code ({ cls := "com/example/rowforge/rowforge/Field$Constant", name := "value", desc := "(Ljava/util/List;)Ljava/lang/Object;" } : Jvm.MethodName) prog_10_method_5_code (2 : Nat) (Option.some (Jvm.ClassFile.FieldType.object "java/lang/Object")), Jvm.Cond.code ({ cls := "java/lang/String", name := "valueOf", desc := "(C)Ljava/lang/String;" } : Jvm.MethodName) jdk_42_method_139_code (1 : Nat) (Option.some (Jvm.ClassFile.FieldType.object "java/lang/String")), Jvm.Cond.code ({ cls := "java/lang/StringLatin1", name := "canEncode", desc := "(C)Z" } : Jvm.MethodName) jdk_43_method_3_code (1 : Nat) (Option.some Jvm.ClassFile.FieldType.boolean), Jvm.Cond.code ({ cls := "java/lang/StringLatin1", name := "toBytes", desc := "(C)[B" } : Jvm.MethodName) jdk_43_method_46_code (1 : Nat) (Option.some (Jvm.ClassFile.FieldType.array Jvm.ClassFile.FieldType.byte)), Jvm.Cond.code ({ cls := "java/lang/String", name := "<init>", desc := "([BB)V" } : Jvm.MethodName) jdk_42_method_151_code (3 : Nat) (Option.none : Option Jvm.ClassFile.FieldType), Jvm.Cond.code ({ cls := "java/lang/Long", name := "valueOf", desc := "(J)Ljava/lang/Long;" } : Jvm.MethodName) jdk_35_method_24_code (3 : Nat) (Option.some (Jvm.ClassFile.FieldType.object "java/lang/Long")), Jvm.Cond.code ({ cls := "java/lang/Long", name := "<init>", desc := "(J)V" } : Jvm.MethodName) jdk_35_method_26_code (3 : Nat) (Option.none : Option Jvm.ClassFile.FieldType), Jvm.Cond.code ({ cls := "java/lang/Number", name := "<init>", desc := "()V" } : Jvm.MethodName) jdk_18_method_1_code (1 : Nat) (Option.none : Option Jvm.ClassFile.FieldType)]
set_option maxRecDepth 65536 in
theorem codes_eq : words1.filter isCode = codes1 := rfl
theorem w_codes : ∀ c ∈ words1.filter isCode, c.before args0 about1 = true := by
  rw [codes_eq]
  intro c hc
  simp only [codes1, List.mem_cons, List.not_mem_nil, or_false] at hc
  rcases hc with rfl | rfl | rfl | rfl | rfl | rfl | rfl | rfl | rfl | rfl | rfl | rfl | rfl | rfl | rfl | rfl | rfl
  · exact w_c0
  · exact w_c1
  · exact w_c2
  · exact w_c3
  · exact w_c4
  · exact w_c5
  · exact w_c6
  · exact w_c7
  · exact w_c8
  · exact w_c9
  · exact w_c10
  · exact w_c11
  · exact w_c12
  · exact w_c13
  · exact w_c14
  · exact w_c15
  · exact w_c16
set_option maxRecDepth 65536 in
theorem w_t1 : (words1.take 24).all (fun c => isCode c || c.before args0 about1) = true := by decide +kernel
set_option maxRecDepth 65536 in
theorem w_t2 : ((words1.drop 24).take 24).all (fun c => isCode c || c.before args0 about1) = true := by decide +kernel
set_option maxRecDepth 65536 in
theorem w_t3 : (((words1.drop 24).drop 24).take 24).all (fun c => isCode c || c.before args0 about1) = true := by decide +kernel
set_option maxRecDepth 65536 in
theorem w_t4 : ((((words1.drop 24).drop 24).drop 24).take 24).all (fun c => isCode c || c.before args0 about1) = true := by decide +kernel
set_option maxRecDepth 65536 in
theorem w_t5 : (((((words1.drop 24).drop 24).drop 24).drop 24).take 24).all (fun c => isCode c || c.before args0 about1) = true := by decide +kernel
set_option maxRecDepth 65536 in
theorem w_t6 : (((((words1.drop 24).drop 24).drop 24).drop 24).drop 24).all (fun c => isCode c || c.before args0 about1) = true := by decide +kernel
theorem w_tables : (allAtoms (Jvm.Cond.code x code maxLocals ret :: tables_1)).before args0 about1 = true := by
  rw [allAtoms_all]
  show words1.all (fun c => c.before args0 about1) = true
  refine all_split ?_ w_codes
  rw [← List.take_append_drop 24 words1, List.all_append, w_t1, ← List.take_append_drop 24 (words1.drop 24), List.all_append, w_t2, ← List.take_append_drop 24 ((words1.drop 24).drop 24), List.all_append, w_t3, ← List.take_append_drop 24 (((words1.drop 24).drop 24).drop 24), List.all_append, w_t4, ← List.take_append_drop 24 ((((words1.drop 24).drop 24).drop 24).drop 24), List.all_append, w_t5, w_t6]
  rfl
set_option maxRecDepth 65536 in
theorem w_rest : rest_1_c.before args0 about1 = true := by decide +kernel
set_option maxRecDepth 65536 in
theorem w_case : (Jvm.Cond.and given_1 narrow_1).before args0 about1 = true := by decide +kernel
theorem w_applies : (headSpec (Jvm.Cond.code x code maxLocals ret :: tables_1) room_1).applies x e0.platform about1 = true :=
  (Spec.applies_iff w_frames).mpr ⟨w_running, w_runnable, w_alone, w_named, w_hears, w_ripe, w_room, w_tables⟩
theorem atStart : AtStart classFile x code maxLocals ret World_1 tables_1 room_1 Calls_1 rest_1 Pre_1 launch0 p0 e0 about1 theMethod args0 below0 :=
  ⟨lists_1, trivial, launch0.admits_env _ _ _, launch0.least_env, fairChoices_fair.cas, fairChoices_fair.clock, w_frames, w_args, w_heap, w_applies, trivial, w_rest, w_case⟩
end start1
theorem witness_1 : WitnessClaimed_1 := ⟨start1.p0, start1.e0, start1.about1, start1.theMethod, start1.args0, start1.below0, start1.atStart⟩
end Jvm.Pilot.@@N@@
