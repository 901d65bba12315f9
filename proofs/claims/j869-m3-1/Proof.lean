import JvmDerived
import JvmDerived.Pilot.@@N@@Statement
import JvmDerived.Pilot.@@N@@Code
set_option linter.unusedVariables false
set_option linter.unusedSimpArgs false
namespace Jvm.RoadKit
open Sem ClassFile Op Lib Jvm.Stand Jvm.Free Jvm.LawKit
section New
variable {p : Program} {l : Launch} {e : Env} {R : Room} {s : State} {m : MethodId} {args : Array Value} {below : List Frame} {meth : Method} {c : Code} {T : State} {locs : List Loc} {cells slots : Nat}
theorem retI (X : Stand p l e R s m args below meth c T locs cells slots) (hx : p.tables.exec = Jvm.exec) {pc : Nat} {Ls : Array Slot} {z : Int32} {rest : List Value} (hret : meth.sig.returnType = some .int) (hd : decode c.code pc = .ok (.ireturn, 1)) {fs : List Frame}
    (hl : ∀ (f : JFrame) (acts : List Action), f.method = m → f.locked = none → f.entered = [] → (doReturn e (T.setTop f) acts (some (.int z))).1 = T.setFrames fs) : Steps p.tables e below (T.setTop (mkF m pc Ls (.int z :: rest))) (T.setFrames fs) := by
  have hm' : T.vm.method? m = some meth := X.method'
  have hn : narrow .int (.int z) = .int z := rfl
  show Steps p.tables e below (T.setTop { method := m, pc := pc, locals := Ls, stack := _ :: rest, locked := none }) _
  jvm_step X.here [X.here.top, hx, hd, hm', hret, hn]
  first | (intro acts; rw [hl _ acts rfl rfl rfl]) | rw [hl _ _ rfl rfl rfl]
  exact Steps.refl _
end New
end Jvm.RoadKit
namespace Jvm.Pilot.@@N@@
open Jvm Jvm.ClassFile Sem Op Lib Jvm.Free Jvm.Stand Jvm.LawKit Jvm.RoadKit Bundle Jvm.Pilot.@@N@@.Jvm.D
theorem own_eqI {args : Array Value} {s : State} {t : Term} {k : Int32} (h : (Jvm.Cond.eq t (.int k)).value args s none s [] = some true) : t.eval args s none [] s = some (.int k) := by
  obtain ⟨x, y, hx, hy, -, k2⟩ := cmp_v (Or.inl h)
  obtain rfl : y = .int k := (Option.some.inj ((Term.int_eval k).symm.trans hy)).symm
  obtain ⟨z, rfl⟩ := k2
  have := gotT (Cond.eq_ints hx (Term.int_eval k)) h
  rw [hx, this]
def Q0 (n0 : Nat) (v : Option Value) (L : List Loc) : Prop := v = some (.int 1) ∧ Fr n0 L
def AtC (Z : State) (a : Addr) (ty : FieldType) (j : Int32) (w : Addr) : Prop := ∃ cl : Cell, Arr Z Z.heap a cl ty ∧ ¬ (j < 0 ∨ cl.slots.size ≤ j.toNatClampNeg) ∧ cl.slots[j.toNatClampNeg]? = some (.ref w)
theorem own_box {Z : State} {a : Addr} {c : Cell} {K d : String} {z : Int32} {val : Int32 → Value} (B : Bxs Z a c K d z val) {j : Int32} (h0 : ¬ j < 0) (h1 : j < z) : ∃ w, AtC Z a (.object K) j w ∧ Exa Z Z.heap w K ∧ Fld Z Z.heap w K "value" d (val j) := by
  obtain ⟨A, S, -, F⟩ := B
  have hin := inb_of S ⟨h0, h1⟩
  obtain ⟨w, hw, E, Fl⟩ := F j hin
  exact ⟨w, ⟨c, A, hin, hw⟩, E, Fl⟩
theorem own_len {s : State} {args : Array Value} {t : Term} {a : Addr} {c : Cell} {z : Int32} (ev : t.eval args s none [] s = some (.ref a)) (fl : s.arrayAt? a = some c) (el : (Term.length t).eval args s none [] s = some (.int z)) : c.slots.size < 2 ^ 31 ∧ c.slots.size.toInt32 = z := by
  simp only [Term.eval, ev] at el
  by_cases q : c.slots.size < 2 ^ 31
  · simp [fl, q] at el; exact ⟨q, el⟩
  · simp [fl, q] at el
theorem own_bxs {Z : State} {args : Array Value} {C n dd : String} {F : Term} {a : Addr} {K d : String} {z : Int32} {val : Int32 → Value} (ev : (Term.static C n dd).eval args Z none [] Z = some (.ref a))
    (ha : (Jvm.Cond.arrayOf (.static C n dd) (.object K)).value args Z none Z [] = some true) (hl : (Jvm.Cond.eq (.length (.static C n dd)) (.int z)).value args Z none Z [] = some true) (hz : ¬ z < 0)
    (h : (Jvm.Cond.all (.static C n dd) (.and (.exactly (.elem (.static C n dd) (.index 0)) K) (.eq (.field (.elem (.static C n dd) (.index 0)) K "value" d) F))).value args Z none Z [] = some true)
    (hv : ∀ (X : Term) (j : Int32), ¬ j < 0 → (Jvm.Cond.eq X F).value args Z none Z [j.toNatClampNeg] = some true → X.eval args Z none [j.toNatClampNeg] Z = some (val j)) : ∃ c, Bxs Z a c K d z val := by
  obtain ⟨c, A⟩ := Arr.start ev ha
  have hq := own_len ev (A.fin (Vm.Alike.refl _)) (own_eqI hl)
  exact ⟨c, Bxs.start (fun _ => ev) A hq.1 hq.2 hz h hv⟩
theorem own_arr0 {s : State} {args : Array Value} {t : Term} {a : Addr} {K : String} (hf : Fit s) (ev : t.eval args s none [] s = some (.ref a)) (ha : (Jvm.Cond.arrayOf t (.object K)).value args s none s [] = some true) (hl : (Jvm.Cond.eq (.length t) (.int 0)).value args s none s [] = some true) :
    ∃ k, Arv s s.heap a k (.object K) (0 : Int32) [] .null := by
  obtain ⟨c, A⟩ := Arr.start ev ha
  have hq := own_len ev (A.fin (Vm.Alike.refl _)) (own_eqI hl)
  exact ⟨_, Arv.start hf A hq.1 hq.2 (by decide) rfl trivial⟩
theorem own_eqR {s : State} {args : Array Value} {t u : Term} {w : Addr} (hu : u.eval args s none [] s = some (.ref w)) (h : (Jvm.Cond.eq t u).value args s none s [] = some true) : t.eval args s none [] s = some (.ref w) := by
  obtain ⟨x, y, hx, hy, -, k2⟩ := cmp_v (Or.inl h)
  obtain rfl : y = .ref w := (Option.some.inj (hu.symm.trans hy)).symm
  have := gotT (eq_R hx hu k2.2 rfl) h
  rw [hx, this]
theorem own_idx {Z : State} {args : Array Value} {j : Int32} (hj : ¬ j < 0) : (Term.sub (.index 0) (.int 128)).eval args Z none [j.toNatClampNeg] Z = some (.int (j - 128)) := by
  have e := idx_at (args := args) (s := Z) (first := Z) (o := none) hj
  simp [Term.eval, e]
  exact (back32 hj).1
theorem own_addsub (a b : Int32) : a + b - b = a := by
  apply Int32.toInt_inj.mp
  have := c_iadd a b; have := c_isub (a + b) b; have := rng32 a; have := rng32 b; have := rng32 (a + b - b)
  omega
theorem wd0 {a0 : Array Value} {Z : State} (hw : ∀ d ∈ tables_1, d.before a0 Z = true) : (Jvm.Cond.constant "com/example/larch/larch/model/RenewalLimitForPeriodsPinLaw" (7 : Nat) (2147483647 : Int32)).before a0 Z = true := hw _ (List.mem_of_getElem? (i := 0) rfl)
theorem wd1 {a0 : Array Value} {Z : State} (hw : ∀ d ∈ tables_1, d.before a0 Z = true) : (Jvm.Cond.methodLink "com/example/larch/larch/model/RenewalLimitForPeriodsPinLaw" (8 : Nat) ({ cls := "com/example/larch/larch/model/RenewalLimit", name := "forPeriods", desc := "(I)Lcom/example/larch/larch/model/RenewalLimit;" } : Jvm.MethodName)).before a0 Z = true := hw _ (List.mem_of_getElem? (i := 1) rfl)
theorem wd2 {a0 : Array Value} {Z : State} (hw : ∀ d ∈ tables_1, d.before a0 Z = true) : (Jvm.Cond.static ({ cls := "com/example/larch/larch/model/RenewalLimit", name := "forPeriods", desc := "(I)Lcom/example/larch/larch/model/RenewalLimit;" } : Jvm.MethodName)).before a0 Z = true := hw _ (List.mem_of_getElem? (i := 2) rfl)
theorem wd3 {a0 : Array Value} {Z : State} (hw : ∀ d ∈ tables_1, d.before a0 Z = true) : (Jvm.Cond.initialized "com/example/larch/larch/model/RenewalLimit").before a0 Z = true := hw _ (List.mem_of_getElem? (i := 3) rfl)
theorem wd4 {a0 : Array Value} {Z : State} (hw : ∀ d ∈ tables_1, d.before a0 Z = true) : (Jvm.Cond.code ({ cls := "com/example/larch/larch/model/RenewalLimit", name := "forPeriods", desc := "(I)Lcom/example/larch/larch/model/RenewalLimit;" } : Jvm.MethodName) prog_18_method_3_code (1 : Nat) (Option.some (Jvm.ClassFile.FieldType.object "com/example/larch/larch/model/RenewalLimit"))).before a0 Z = true := hw _ (List.mem_of_getElem? (i := 4) rfl)
theorem wd5 {a0 : Array Value} {Z : State} (hw : ∀ d ∈ tables_1, d.before a0 Z = true) : (Jvm.Cond.classLink "com/example/larch/larch/model/RenewalLimit" (8 : Nat) "com/example/larch/larch/model/RenewalLimit").before a0 Z = true := hw _ (List.mem_of_getElem? (i := 5) rfl)
theorem wd6 {a0 : Array Value} {Z : State} (hw : ∀ d ∈ tables_1, d.before a0 Z = true) : (Jvm.Cond.instantiable "com/example/larch/larch/model/RenewalLimit" (2 : Nat)).before a0 Z = true := hw _ (List.mem_of_getElem? (i := 6) rfl)
theorem wd7 {a0 : Array Value} {Z : State} (hw : ∀ d ∈ tables_1, d.before a0 Z = true) : (Jvm.Cond.methodLink "com/example/larch/larch/model/RenewalLimit" (38 : Nat) ({ cls := "java/lang/Integer", name := "valueOf", desc := "(I)Ljava/lang/Integer;" } : Jvm.MethodName)).before a0 Z = true := hw _ (List.mem_of_getElem? (i := 7) rfl)
theorem wd8 {a0 : Array Value} {Z : State} (hw : ∀ d ∈ tables_1, d.before a0 Z = true) : (Jvm.Cond.static ({ cls := "java/lang/Integer", name := "valueOf", desc := "(I)Ljava/lang/Integer;" } : Jvm.MethodName)).before a0 Z = true := hw _ (List.mem_of_getElem? (i := 8) rfl)
theorem wd9 {a0 : Array Value} {Z : State} (hw : ∀ d ∈ tables_1, d.before a0 Z = true) : (Jvm.Cond.initialized "java/lang/Integer").before a0 Z = true := hw _ (List.mem_of_getElem? (i := 9) rfl)
theorem wd10 {a0 : Array Value} {Z : State} (hw : ∀ d ∈ tables_1, d.before a0 Z = true) : (Jvm.Cond.code ({ cls := "java/lang/Integer", name := "valueOf", desc := "(I)Ljava/lang/Integer;" } : Jvm.MethodName) jdk_33_method_22_code (1 : Nat) (Option.some (Jvm.ClassFile.FieldType.object "java/lang/Integer"))).before a0 Z = true := hw _ (List.mem_of_getElem? (i := 10) rfl)
theorem wd11 {a0 : Array Value} {Z : State} (hw : ∀ d ∈ tables_1, d.before a0 Z = true) : (Jvm.Cond.fieldLink "java/lang/Integer" (191 : Nat) "java/lang/Integer$IntegerCache" "high" "I").before a0 Z = true := hw _ (List.mem_of_getElem? (i := 11) rfl)
theorem wd12 {a0 : Array Value} {Z : State} (hw : ∀ d ∈ tables_1, d.before a0 Z = true) : (Jvm.Cond.initialized "java/lang/Integer$IntegerCache").before a0 Z = true := hw _ (List.mem_of_getElem? (i := 12) rfl)
theorem wd13 {a0 : Array Value} {Z : State} (hw : ∀ d ∈ tables_1, d.before a0 Z = true) : (Jvm.Cond.fieldLink "java/lang/Integer" (195 : Nat) "java/lang/Integer$IntegerCache" "cache" "[Ljava/lang/Integer;").before a0 Z = true := hw _ (List.mem_of_getElem? (i := 13) rfl)
theorem wd14 {a0 : Array Value} {Z : State} (hw : ∀ d ∈ tables_1, d.before a0 Z = true) : (Jvm.Cond.methodLink "com/example/larch/larch/model/RenewalLimit" (26 : Nat) ({ cls := "com/example/larch/larch/model/RenewalLimit", name := "<init>", desc := "(Ljava/time/LocalDate;Ljava/lang/Integer;)V" } : Jvm.MethodName)).before a0 Z = true := hw _ (List.mem_of_getElem? (i := 14) rfl)
theorem wd15 {a0 : Array Value} {Z : State} (hw : ∀ d ∈ tables_1, d.before a0 Z = true) : (Jvm.Cond.instanceMethod ({ cls := "com/example/larch/larch/model/RenewalLimit", name := "<init>", desc := "(Ljava/time/LocalDate;Ljava/lang/Integer;)V" } : Jvm.MethodName)).before a0 Z = true := hw _ (List.mem_of_getElem? (i := 15) rfl)
theorem wd16 {a0 : Array Value} {Z : State} (hw : ∀ d ∈ tables_1, d.before a0 Z = true) : (Jvm.Cond.code ({ cls := "com/example/larch/larch/model/RenewalLimit", name := "<init>", desc := "(Ljava/time/LocalDate;Ljava/lang/Integer;)V" } : Jvm.MethodName) prog_18_method_1_code (3 : Nat) (Option.none : Option Jvm.ClassFile.FieldType)).before a0 Z = true := hw _ (List.mem_of_getElem? (i := 16) rfl)
theorem wd17 {a0 : Array Value} {Z : State} (hw : ∀ d ∈ tables_1, d.before a0 Z = true) : (Jvm.Cond.methodLink "com/example/larch/larch/model/RenewalLimit" (1 : Nat) ({ cls := "java/lang/Object", name := "<init>", desc := "()V" } : Jvm.MethodName)).before a0 Z = true := hw _ (List.mem_of_getElem? (i := 17) rfl)
theorem wd18 {a0 : Array Value} {Z : State} (hw : ∀ d ∈ tables_1, d.before a0 Z = true) : (Jvm.Cond.instanceMethod ({ cls := "java/lang/Object", name := "<init>", desc := "()V" } : Jvm.MethodName)).before a0 Z = true := hw _ (List.mem_of_getElem? (i := 18) rfl)
theorem wd19 {a0 : Array Value} {Z : State} (hw : ∀ d ∈ tables_1, d.before a0 Z = true) : (Jvm.Cond.code ({ cls := "java/lang/Object", name := "<init>", desc := "()V" } : Jvm.MethodName) object_method_1_code (1 : Nat) (Option.none : Option Jvm.ClassFile.FieldType)).before a0 Z = true := hw _ (List.mem_of_getElem? (i := 19) rfl)
theorem wd20 {a0 : Array Value} {Z : State} (hw : ∀ d ∈ tables_1, d.before a0 Z = true) : (Jvm.Cond.fieldLink "com/example/larch/larch/model/RenewalLimit" (7 : Nat) "com/example/larch/larch/model/RenewalLimit" "lastChargeDay" "Ljava/time/LocalDate;").before a0 Z = true := hw _ (List.mem_of_getElem? (i := 20) rfl)
theorem wd21 {a0 : Array Value} {Z : State} (hw : ∀ d ∈ tables_1, d.before a0 Z = true) : (Jvm.Cond.laysFinal "com/example/larch/larch/model/RenewalLimit" "com/example/larch/larch/model/RenewalLimit" "lastChargeDay" "Ljava/time/LocalDate;").before a0 Z = true := hw _ (List.mem_of_getElem? (i := 21) rfl)
theorem wd22 {a0 : Array Value} {Z : State} (hw : ∀ d ∈ tables_1, d.before a0 Z = true) : (Jvm.Cond.fieldLink "com/example/larch/larch/model/RenewalLimit" (13 : Nat) "com/example/larch/larch/model/RenewalLimit" "remainingPeriods" "Ljava/lang/Integer;").before a0 Z = true := hw _ (List.mem_of_getElem? (i := 22) rfl)
theorem wd23 {a0 : Array Value} {Z : State} (hw : ∀ d ∈ tables_1, d.before a0 Z = true) : (Jvm.Cond.laysFinal "com/example/larch/larch/model/RenewalLimit" "com/example/larch/larch/model/RenewalLimit" "remainingPeriods" "Ljava/lang/Integer;").before a0 Z = true := hw _ (List.mem_of_getElem? (i := 23) rfl)
theorem wd24 {a0 : Array Value} {Z : State} (hw : ∀ d ∈ tables_1, d.before a0 Z = true) : (Jvm.Cond.fieldLink "com/example/larch/larch/model/RenewalLimitForPeriodsPinLaw" (14 : Nat) "com/example/larch/larch/model/RenewalLimit" "NONE" "Lcom/example/larch/larch/model/RenewalLimit;").before a0 Z = true := hw _ (List.mem_of_getElem? (i := 24) rfl)
theorem wd25 {a0 : Array Value} {Z : State} (hw : ∀ d ∈ tables_1, d.before a0 Z = true) : (Jvm.Cond.laysStatic "com/example/larch/larch/model/RenewalLimit" "NONE" "Lcom/example/larch/larch/model/RenewalLimit;").before a0 Z = true := hw _ (List.mem_of_getElem? (i := 25) rfl)
theorem wd26 {a0 : Array Value} {Z : State} (hw : ∀ d ∈ tables_1, d.before a0 Z = true) : (Jvm.Cond.methodLink "com/example/larch/larch/model/RenewalLimitForPeriodsPinLaw" (18 : Nat) ({ cls := "com/example/larch/larch/model/RenewalLimit", name := "remainingPeriods", desc := "()Ljava/lang/Integer;" } : Jvm.MethodName)).before a0 Z = true := hw _ (List.mem_of_getElem? (i := 26) rfl)
theorem wd27 {a0 : Array Value} {Z : State} (hw : ∀ d ∈ tables_1, d.before a0 Z = true) : (Jvm.Cond.declares ({ cls := "com/example/larch/larch/model/RenewalLimit", name := "remainingPeriods", desc := "()Ljava/lang/Integer;" } : Jvm.MethodName)).before a0 Z = true := hw _ (List.mem_of_getElem? (i := 27) rfl)
theorem wd28 {a0 : Array Value} {Z : State} (hw : ∀ d ∈ tables_1, d.before a0 Z = true) : (Jvm.Cond.instanceMethod ({ cls := "com/example/larch/larch/model/RenewalLimit", name := "remainingPeriods", desc := "()Ljava/lang/Integer;" } : Jvm.MethodName)).before a0 Z = true := hw _ (List.mem_of_getElem? (i := 28) rfl)
theorem wd29 {a0 : Array Value} {Z : State} (hw : ∀ d ∈ tables_1, d.before a0 Z = true) : (Jvm.Cond.selects "com/example/larch/larch/model/RenewalLimit" ({ cls := "com/example/larch/larch/model/RenewalLimit", name := "remainingPeriods", desc := "()Ljava/lang/Integer;" } : Jvm.MethodName) ({ cls := "com/example/larch/larch/model/RenewalLimit", name := "remainingPeriods", desc := "()Ljava/lang/Integer;" } : Jvm.MethodName)).before a0 Z = true := hw _ (List.mem_of_getElem? (i := 29) rfl)
theorem wd30 {a0 : Array Value} {Z : State} (hw : ∀ d ∈ tables_1, d.before a0 Z = true) : (Jvm.Cond.code ({ cls := "com/example/larch/larch/model/RenewalLimit", name := "remainingPeriods", desc := "()Ljava/lang/Integer;" } : Jvm.MethodName) prog_18_method_5_code (1 : Nat) (Option.some (Jvm.ClassFile.FieldType.object "java/lang/Integer"))).before a0 Z = true := hw _ (List.mem_of_getElem? (i := 30) rfl)
theorem wd31 {a0 : Array Value} {Z : State} (hw : ∀ d ∈ tables_1, d.before a0 Z = true) : (Jvm.Cond.methodLink "com/example/larch/larch/model/RenewalLimitForPeriodsPinLaw" (22 : Nat) ({ cls := "java/lang/Integer", name := "intValue", desc := "()I" } : Jvm.MethodName)).before a0 Z = true := hw _ (List.mem_of_getElem? (i := 31) rfl)
theorem wd32 {a0 : Array Value} {Z : State} (hw : ∀ d ∈ tables_1, d.before a0 Z = true) : (Jvm.Cond.declares ({ cls := "java/lang/Integer", name := "intValue", desc := "()I" } : Jvm.MethodName)).before a0 Z = true := hw _ (List.mem_of_getElem? (i := 32) rfl)
theorem wd33 {a0 : Array Value} {Z : State} (hw : ∀ d ∈ tables_1, d.before a0 Z = true) : (Jvm.Cond.instanceMethod ({ cls := "java/lang/Integer", name := "intValue", desc := "()I" } : Jvm.MethodName)).before a0 Z = true := hw _ (List.mem_of_getElem? (i := 33) rfl)
theorem wd34 {a0 : Array Value} {Z : State} (hw : ∀ d ∈ tables_1, d.before a0 Z = true) : (Jvm.Cond.selects "java/lang/Integer" ({ cls := "java/lang/Integer", name := "intValue", desc := "()I" } : Jvm.MethodName) ({ cls := "java/lang/Integer", name := "intValue", desc := "()I" } : Jvm.MethodName)).before a0 Z = true := hw _ (List.mem_of_getElem? (i := 34) rfl)
theorem wd35 {a0 : Array Value} {Z : State} (hw : ∀ d ∈ tables_1, d.before a0 Z = true) : (Jvm.Cond.code ({ cls := "java/lang/Integer", name := "intValue", desc := "()I" } : Jvm.MethodName) jdk_33_method_27_code (1 : Nat) (Option.some Jvm.ClassFile.FieldType.int)).before a0 Z = true := hw _ (List.mem_of_getElem? (i := 35) rfl)
theorem wd36 {a0 : Array Value} {Z : State} (hw : ∀ d ∈ tables_1, d.before a0 Z = true) : (Jvm.Cond.fieldLink "java/lang/Integer" (205 : Nat) "java/lang/Integer" "value" "I").before a0 Z = true := hw _ (List.mem_of_getElem? (i := 36) rfl)
theorem wd37 {a0 : Array Value} {Z : State} (hw : ∀ d ∈ tables_1, d.before a0 Z = true) : (Jvm.Cond.laysFinal "java/lang/Integer" "java/lang/Integer" "value" "I").before a0 Z = true := hw _ (List.mem_of_getElem? (i := 37) rfl)
theorem wd38 {a0 : Array Value} {Z : State} (hw : ∀ d ∈ tables_1, d.before a0 Z = true) : (Jvm.Cond.methodLink "com/example/larch/larch/model/RenewalLimitForPeriodsPinLaw" (28 : Nat) ({ cls := "com/example/larch/larch/model/RenewalLimit", name := "lastChargeDay", desc := "()Ljava/time/LocalDate;" } : Jvm.MethodName)).before a0 Z = true := hw _ (List.mem_of_getElem? (i := 38) rfl)
theorem wd39 {a0 : Array Value} {Z : State} (hw : ∀ d ∈ tables_1, d.before a0 Z = true) : (Jvm.Cond.declares ({ cls := "com/example/larch/larch/model/RenewalLimit", name := "lastChargeDay", desc := "()Ljava/time/LocalDate;" } : Jvm.MethodName)).before a0 Z = true := hw _ (List.mem_of_getElem? (i := 39) rfl)
theorem wd40 {a0 : Array Value} {Z : State} (hw : ∀ d ∈ tables_1, d.before a0 Z = true) : (Jvm.Cond.instanceMethod ({ cls := "com/example/larch/larch/model/RenewalLimit", name := "lastChargeDay", desc := "()Ljava/time/LocalDate;" } : Jvm.MethodName)).before a0 Z = true := hw _ (List.mem_of_getElem? (i := 40) rfl)
theorem wd41 {a0 : Array Value} {Z : State} (hw : ∀ d ∈ tables_1, d.before a0 Z = true) : (Jvm.Cond.selects "com/example/larch/larch/model/RenewalLimit" ({ cls := "com/example/larch/larch/model/RenewalLimit", name := "lastChargeDay", desc := "()Ljava/time/LocalDate;" } : Jvm.MethodName) ({ cls := "com/example/larch/larch/model/RenewalLimit", name := "lastChargeDay", desc := "()Ljava/time/LocalDate;" } : Jvm.MethodName)).before a0 Z = true := hw _ (List.mem_of_getElem? (i := 41) rfl)
theorem wd42 {a0 : Array Value} {Z : State} (hw : ∀ d ∈ tables_1, d.before a0 Z = true) : (Jvm.Cond.code ({ cls := "com/example/larch/larch/model/RenewalLimit", name := "lastChargeDay", desc := "()Ljava/time/LocalDate;" } : Jvm.MethodName) prog_18_method_4_code (1 : Nat) (Option.some (Jvm.ClassFile.FieldType.object "java/time/LocalDate"))).before a0 Z = true := hw _ (List.mem_of_getElem? (i := 42) rfl)
theorem wd43 {a0 : Array Value} {Z : State} (hw : ∀ d ∈ tables_1, d.before a0 Z = true) : (Jvm.Cond.classLink "java/lang/Integer" (1 : Nat) "java/lang/Integer").before a0 Z = true := hw _ (List.mem_of_getElem? (i := 43) rfl)
theorem wd44 {a0 : Array Value} {Z : State} (hw : ∀ d ∈ tables_1, d.before a0 Z = true) : (Jvm.Cond.instantiable "java/lang/Integer" (1 : Nat)).before a0 Z = true := hw _ (List.mem_of_getElem? (i := 44) rfl)
theorem wd45 {a0 : Array Value} {Z : State} (hw : ∀ d ∈ tables_1, d.before a0 Z = true) : (Jvm.Cond.methodLink "java/lang/Integer" (199 : Nat) ({ cls := "java/lang/Integer", name := "<init>", desc := "(I)V" } : Jvm.MethodName)).before a0 Z = true := hw _ (List.mem_of_getElem? (i := 45) rfl)
theorem wd46 {a0 : Array Value} {Z : State} (hw : ∀ d ∈ tables_1, d.before a0 Z = true) : (Jvm.Cond.instanceMethod ({ cls := "java/lang/Integer", name := "<init>", desc := "(I)V" } : Jvm.MethodName)).before a0 Z = true := hw _ (List.mem_of_getElem? (i := 46) rfl)
theorem wd48 {a0 : Array Value} {Z : State} (hw : ∀ d ∈ tables_1, d.before a0 Z = true) : (Jvm.Cond.code ({ cls := "java/lang/Integer", name := "<init>", desc := "(I)V" } : Jvm.MethodName) jdk_33_method_23_code (2 : Nat) (Option.none : Option Jvm.ClassFile.FieldType)).before a0 Z = true := hw _ (List.mem_of_getElem? (i := 48) rfl)
theorem wd49 {a0 : Array Value} {Z : State} (hw : ∀ d ∈ tables_1, d.before a0 Z = true) : (Jvm.Cond.methodLink "java/lang/Integer" (202 : Nat) ({ cls := "java/lang/Number", name := "<init>", desc := "()V" } : Jvm.MethodName)).before a0 Z = true := hw _ (List.mem_of_getElem? (i := 49) rfl)
theorem wd50 {a0 : Array Value} {Z : State} (hw : ∀ d ∈ tables_1, d.before a0 Z = true) : (Jvm.Cond.instanceMethod ({ cls := "java/lang/Number", name := "<init>", desc := "()V" } : Jvm.MethodName)).before a0 Z = true := hw _ (List.mem_of_getElem? (i := 50) rfl)
theorem wd53 {a0 : Array Value} {Z : State} (hw : ∀ d ∈ tables_1, d.before a0 Z = true) : (Jvm.Cond.initialized "java/lang/Number").before a0 Z = true := hw _ (List.mem_of_getElem? (i := 53) rfl)
theorem wd54 {a0 : Array Value} {Z : State} (hw : ∀ d ∈ tables_1, d.before a0 Z = true) : (Jvm.Cond.code ({ cls := "java/lang/Number", name := "<init>", desc := "()V" } : Jvm.MethodName) jdk_18_method_1_code (1 : Nat) (Option.none : Option Jvm.ClassFile.FieldType)).before a0 Z = true := hw _ (List.mem_of_getElem? (i := 54) rfl)
theorem wd55 {a0 : Array Value} {Z : State} (hw : ∀ d ∈ tables_1, d.before a0 Z = true) : (Jvm.Cond.methodLink "java/lang/Number" (1 : Nat) ({ cls := "java/lang/Object", name := "<init>", desc := "()V" } : Jvm.MethodName)).before a0 Z = true := hw _ (List.mem_of_getElem? (i := 55) rfl)
theorem ef_0_0 (m : MethodId) (x0 : Int32) : entryFrame m #[(.int x0)] maxLocals = mkF m 0 #[.val (.int x0), .unset, .unset, .unset] [] := by first | (simp [entryFrame, mkF, argsToLocals, Value.category, maxLocals]; done) | rfl
theorem pn_0 : plainName "com/example/larch/larch/model/RenewalLimitForPeriodsPinLaw" = true := by first | (simp [plainName, overriddenIn]; done) | decide +kernel
set_option maxRecDepth 65536 in
set_option maxHeartbeats 40000000 in
theorem rm0_z (l : Launch) (Z : State) (a0 : Array Value) (hw : ∀ d ∈ tables_1, d.before a0 Z = true) (ws : List Jvm.Cond) (p1 : Int32) (h0 : Heap) (n0 : Nat) (OL0 : Old Z n0 h0) (pr1 : (p1 &&& (2147483647 : Int32)) = (0 : Int32)) :
    MetFree l x (head1 (Jvm.Cond.code x code maxLocals ret :: ws) room_1) (fun a U => a = #[(.int p1)] ∧ Z.Warmed39 U.vm ∧ U.heap = h0) (fun _ _ _ _ _ => True) (fun _ U o U' => ∃ v L, o = .returned v ∧ Q0 n0 v L ∧ FrameEnd U o U' L 16 128) := by
  refine MetFree.of_bodySF (plainFor_of_name pn_0) hisR ?_
  intro p e s m args below meth c s₁ Bd hml0 hP hK
  obtain ⟨rfl, hZ, hh⟩ := hP
  have hx := Bd.exec
  have hby := Bd.bytes
  have hml : c.maxLocals = 4 := hml0
  have hown : s.vm.findClass "com/example/larch/larch/model/RenewalLimitForPeriodsPinLaw" = some m.cls := findClass_of_methodNamed Bd.named
  have hnm := (name_of_methodNamed Bd.named Bd.method).1
  have X0 : Stand p l e room_1 s m #[(.int p1)] below meth c s₁ [] 0 0 := Stand.of_body Bd
  have e0 : s₁.heap = h0 := by rw [← hh, Bd.state]; rfl
  have N0 := Fr.nil n0
  have pre0 : ∀ t, Steps p.tables e below (s₁.setTop (mkF m 0 #[.val (.int p1), .unset, .unset, .unset] [])) t → Steps p.tables e below (s₁.setTop (entryFrame m #[(.int p1)] maxLocals)) t := fun t k => castTop (ef_0_0 m p1) k
  obtain ⟨fs, hr, hrun, hended, hW, hsame⟩ := X0.leave (v := some (.int (1 : Int32))) (fun h => by rw [Bd.returns] at h; cases h)
  refine ⟨_, _, pre0 _ ?_, hrun, hended, _, _, rfl, ?_, ⟨_, rfl⟩, hW, hsame.mono (by decide) (by decide)⟩
  · show Steps p.tables e below (s₁.setTop (mkF m 0 #[.val (.int p1), .unset, .unset, .unset] [])) _
    refine XS.iloadN X0.here hx rfl (hb hby at_0) rfl ?_
    show Steps p.tables e below (s₁.setTop (mkF m 1 #[.val (.int p1), .unset, .unset, .unset] [(.int p1)])) _
    refine X0.ldcInt hx hown (mvT hZ (wd0 hw)) (g := (mkF m 1 #[.val (.int p1), .unset, .unset, .unset] [(.int p1)])) rfl (hb hby at_1) _ ?_
    show Steps p.tables e below (s₁.setTop (mkF m 3 #[.val (.int p1), .unset, .unset, .unset] [(.int (2147483647 : Int32)), (.int p1)])) _
    refine XS.iand X0.here hx rfl (hb hby at_3) rfl ?_
    show Steps p.tables e below (s₁.setTop (mkF m 4 #[.val (.int p1), .unset, .unset, .unset] [(.int (p1 &&& (2147483647 : Int32)))])) _
    refine XS.istoreN X0.here hx rfl (hb hby at_4) rfl (l' := #[.val (.int p1), .val (.int (p1 &&& (2147483647 : Int32))), .unset, .unset]) rfl ?_
    show Steps p.tables e below (s₁.setTop (mkF m 5 #[.val (.int p1), .val (.int (p1 &&& (2147483647 : Int32))), .unset, .unset] [])) _
    refine XS.iloadN X0.here hx rfl (hb hby at_5) rfl ?_
    show Steps p.tables e below (s₁.setTop (mkF m 6 #[.val (.int p1), .val (.int (p1 &&& (2147483647 : Int32))), .unset, .unset] [(.int (p1 &&& (2147483647 : Int32)))])) _
    refine XS.ifNo X0.here hx rfl (hb hby at_6) rfl ((if0 _ _).trans (teq pr1).2) ?_
    show Steps p.tables e below (s₁.setTop (mkF m 9 #[.val (.int p1), .val (.int (p1 &&& (2147483647 : Int32))), .unset, .unset] [])) _
    refine XS.iconst X0.here hx rfl (hb hby at_9) ?_
    show Steps p.tables e below (s₁.setTop (mkF m 10 #[.val (.int p1), .val (.int (p1 &&& (2147483647 : Int32))), .unset, .unset] [(.int (1 : Int32))])) _
    exact retN X0 hx (t := .boolean) Bd.returns (by simp) (hb hby at_10) hr
  · exact ⟨rfl, N0⟩
theorem d1_0 : decode prog_18_method_3_code 0 = .ok (.iload_n 0, 1) := by decide +kernel
theorem d1_1 : decode prog_18_method_3_code 1 = .ok (.iconst 1, 1) := by decide +kernel
theorem d1_2 : decode prog_18_method_3_code 2 = .ok (.if_icmp .ge 17, 3) := by decide +kernel
theorem d1_19 : decode prog_18_method_3_code 19 = .ok (.new 8, 3) := by decide +kernel
theorem d1_22 : decode prog_18_method_3_code 22 = .ok (.dup, 1) := by decide +kernel
theorem d1_23 : decode prog_18_method_3_code 23 = .ok (.aconst_null, 1) := by decide +kernel
theorem d1_24 : decode prog_18_method_3_code 24 = .ok (.iload_n 0, 1) := by decide +kernel
theorem d1_25 : decode prog_18_method_3_code 25 = .ok (.invokestatic 38, 3) := by decide +kernel
theorem d2_0 : decode jdk_33_method_22_code 0 = .ok (.iload_n 0, 1) := by decide +kernel
theorem d2_1 : decode jdk_33_method_22_code 1 = .ok (.bipush (-128), 2) := by decide +kernel
theorem d2_3 : decode jdk_33_method_22_code 3 = .ok (.if_icmp .lt 20, 3) := by decide +kernel
theorem d2_6 : decode jdk_33_method_22_code 6 = .ok (.iload_n 0, 1) := by decide +kernel
theorem d2_7 : decode jdk_33_method_22_code 7 = .ok (.getstatic 191, 3) := by decide +kernel
theorem d2_10 : decode jdk_33_method_22_code 10 = .ok (.if_icmp .gt 13, 3) := by decide +kernel
theorem d2_13 : decode jdk_33_method_22_code 13 = .ok (.getstatic 195, 3) := by decide +kernel
theorem d2_16 : decode jdk_33_method_22_code 16 = .ok (.iload_n 0, 1) := by decide +kernel
theorem d2_17 : decode jdk_33_method_22_code 17 = .ok (.sipush 128, 3) := by decide +kernel
theorem d2_20 : decode jdk_33_method_22_code 20 = .ok (.iadd, 1) := by decide +kernel
theorem d2_21 : decode jdk_33_method_22_code 21 = .ok (.aaload, 1) := by decide +kernel
theorem d2_22 : decode jdk_33_method_22_code 22 = .ok (.areturn, 1) := by decide +kernel
theorem ef_2_1 (m : MethodId) (x0 : Int32) : entryFrame m #[(.int x0)] 1 = mkF m 0 #[.val (.int x0)] [] := by first | (simp [entryFrame, mkF, argsToLocals, Value.category]; done) | rfl
theorem pn_1 : plainName "java/lang/Integer" = true := by first | (simp [plainName, overriddenIn]; done) | decide +kernel
def Q_rm2_0 (Z : State) (p1 : Int32) (w3 : Addr) (w5 : Addr) (h0 : Heap) (n0 : Nat) (v : Option Value) (h : Heap) (L : List Loc) : Prop := v = some (.ref w5) ∧ Fr n0 L ∧ h = h0
set_option maxRecDepth 65536 in
set_option maxHeartbeats 40000000 in
theorem rm2_0 (l : Launch) (Z : State) (a0 : Array Value) (hw : ∀ d ∈ tables_1, d.before a0 Z = true) (ws : List Jvm.Cond) (p1 : Int32) (w3 : Addr) (w5 : Addr) (h0 : Heap) (n0 : Nat) (OL0 : Old Z n0 h0) (pr1 : ¬ (p1 < (-128 : Int32))) (pr2 : Sta Z Z.heap "java/lang/Integer$IntegerCache" "high" "I" (.int (127 : Int32))) (pr3 : ¬ ((127 : Int32) < p1)) (pr4 : Sta Z Z.heap "java/lang/Integer$IntegerCache" "cache" "[Ljava/lang/Integer;" (.ref w3)) (pr5 : AtC Z w3 (.object "java/lang/Integer") (p1 + (128 : Int32)) w5) :
    MetFree l (⟨"java/lang/Integer", "valueOf", "(I)Ljava/lang/Integer;"⟩ : MethodName) (head1 (Jvm.Cond.code (⟨"java/lang/Integer", "valueOf", "(I)Ljava/lang/Integer;"⟩ : MethodName) jdk_33_method_22_code 1 (some (.object "java/lang/Integer")) :: ws) ({ frames := 0, cells := 0, slots := 0, locals := 0 } : Room)) (fun a U => a = #[(.int p1)] ∧ Z.Warmed39 U.vm ∧ U.heap = h0) (fun _ _ _ _ _ => True) (fun _ U o U' => ∃ v L, o = .returned v ∧ Q_rm2_0 Z p1 w3 w5 h0 n0 v U'.heap L ∧ FrameEnd U o U' L ({ frames := 0, cells := 0, slots := 0, locals := 0 } : Room).cells ({ frames := 0, cells := 0, slots := 0, locals := 0 } : Room).slots) := by
  refine MetFree.of_bodySF (plainFor_of_name pn_1) hisR ?_
  intro p e s m args below meth c s₁ Bd hml0 hP hK
  obtain ⟨rfl, hZ, hh⟩ := hP
  have hx := Bd.exec
  have hby := Bd.bytes
  have hml : c.maxLocals = 1 := hml0
  have hown : s.vm.findClass "java/lang/Integer" = some m.cls := findClass_of_methodNamed Bd.named
  have hnm := (name_of_methodNamed Bd.named Bd.method).1
  have X0 : Stand p l e ({ frames := 0, cells := 0, slots := 0, locals := 0 } : Room) s m #[(.int p1)] below meth c s₁ [] 0 0 := Stand.of_body Bd
  have e0 : s₁.heap = h0 := by rw [← hh, Bd.state]; rfl
  have N0 := Fr.nil n0
  have pre0 : ∀ t, Steps p.tables e below (s₁.setTop (mkF m 0 #[.val (.int p1)] [])) t → Steps p.tables e below (s₁.setTop (entryFrame m #[(.int p1)] 1)) t := fun t k => castTop (ef_2_1 m p1) k
  obtain ⟨T2, X2, e2, st2⟩ := getS2 X0 hx hZ hown (host := "") (Or.inl (wd11 hw)) Via.refl e0 (pr2.ext OL0.2) (g := (mkF m 7 #[.val (.int p1)] [(.int p1)])) rfl (hb hby d2_7)
  obtain ⟨T4, X4, e4, st4⟩ := getS2 X2 hx hZ hown (host := "") (Or.inl (wd13 hw)) Via.refl e2 (pr4.ext OL0.2) (g := (mkF m 13 #[.val (.int p1)] [])) rfl (hb hby d2_13)
  obtain ⟨cl6, Ar06, hin6, hat6⟩ := id pr5
  have Ar6 := Ar06.ext OL0.2
  obtain ⟨fs, hr, hrun, hended, hW, hsame⟩ := X4.leave (v := some (.ref w5)) (fun h => by rw [Bd.returns] at h; cases h)
  refine ⟨_, _, pre0 _ ?_, hrun, hended, _, _, rfl, ?_, ⟨_, rfl⟩, hW, hsame.mono (by decide) (by decide)⟩
  · show Steps p.tables e below (s₁.setTop (mkF m 0 #[.val (.int p1)] [])) _
    refine XS.iloadN X0.here hx rfl (hb hby d2_0) rfl ?_
    show Steps p.tables e below (s₁.setTop (mkF m 1 #[.val (.int p1)] [(.int p1)])) _
    refine XS.bipush X0.here hx rfl (hb hby d2_1) ?_
    show Steps p.tables e below (s₁.setTop (mkF m 3 #[.val (.int p1)] [(.int (-128 : Int32)), (.int p1)])) _
    refine XS.icmpNo X0.here hx rfl (hb hby d2_3) rfl (flt pr1).1 ?_
    show Steps p.tables e below (s₁.setTop (mkF m 6 #[.val (.int p1)] [])) _
    refine XS.iloadN X0.here hx rfl (hb hby d2_6) rfl ?_
    show Steps p.tables e below (s₁.setTop (mkF m 7 #[.val (.int p1)] [(.int p1)])) _
    refine st2 _ ?_
    show Steps p.tables e below (T2.setTop (mkF m 10 #[.val (.int p1)] [(.int (127 : Int32)), (.int p1)])) _
    refine XS.icmpNo X2.here hx rfl (hb hby d2_10) rfl (flt pr3).2.2.1 ?_
    show Steps p.tables e below (T2.setTop (mkF m 13 #[.val (.int p1)] [])) _
    refine st4 _ ?_
    show Steps p.tables e below (T4.setTop (mkF m 16 #[.val (.int p1)] [(.ref w3)])) _
    refine XS.iloadN X4.here hx rfl (hb hby d2_16) rfl ?_
    show Steps p.tables e below (T4.setTop (mkF m 17 #[.val (.int p1)] [(.int p1), (.ref w3)])) _
    refine XS.sipush X4.here hx rfl (hb hby d2_17) ?_
    show Steps p.tables e below (T4.setTop (mkF m 20 #[.val (.int p1)] [(.int (128 : Int32)), (.int p1), (.ref w3)])) _
    refine XS.iadd X4.here hx rfl (hb hby d2_20) rfl ?_
    show Steps p.tables e below (T4.setTop (mkF m 21 #[.val (.int p1)] [(.int (p1 + (128 : Int32))), (.ref w3)])) _
    refine X4.aaload hx (j := (p1 + (128 : Int32))) (v := (.ref w5)) (by rw [e4]; exact Ar6.1) (State.isArrayOf_alike hZ.alike Ar6.2.1) rfl Ar6.2.2 hin6 hat6 (g := (mkF m 21 #[.val (.int p1)] [(.int (p1 + (128 : Int32))), (.ref w3)])) rfl rfl (hb hby d2_21) _ ?_
    show Steps p.tables e below (T4.setTop (mkF m 22 #[.val (.int p1)] [(.ref w5)])) _
    jvm_step X4.here [X4.here.top, hx, (hb hby d2_22), X4.method', Bd.returns, Value.isRef, FieldType.isReference]
    first | (intro acts; rw [hr _ acts rfl rfl rfl]) | rw [hr _ _ rfl rfl rfl]
    exact Steps.refl _
  · show Q_rm2_0 Z p1 w3 w5 h0 n0 _ T4.heap _
    rw [e4]
    exact ⟨rfl, N0, rfl⟩
theorem pd_0 : parseMethodDescriptor "(I)Ljava/lang/Integer;" = some ⟨[.int], some (.object "java/lang/Integer")⟩ := by decide +kernel
theorem d1_28 : decode prog_18_method_3_code 28 = .ok (.invokespecial 26, 3) := by decide +kernel
theorem d3_0 : decode prog_18_method_1_code 0 = .ok (.aload_n 0, 1) := by decide +kernel
theorem d3_1 : decode prog_18_method_1_code 1 = .ok (.invokespecial 1, 3) := by decide +kernel
theorem d3_4 : decode prog_18_method_1_code 4 = .ok (.aload_n 0, 1) := by decide +kernel
theorem d3_5 : decode prog_18_method_1_code 5 = .ok (.aload_n 1, 1) := by decide +kernel
theorem d3_6 : decode prog_18_method_1_code 6 = .ok (.putfield 7, 3) := by decide +kernel
theorem d3_9 : decode prog_18_method_1_code 9 = .ok (.aload_n 0, 1) := by decide +kernel
theorem d3_10 : decode prog_18_method_1_code 10 = .ok (.aload_n 2, 1) := by decide +kernel
theorem d3_11 : decode prog_18_method_1_code 11 = .ok (.putfield 13, 3) := by decide +kernel
theorem d3_14 : decode prog_18_method_1_code 14 = .ok (.return_, 1) := by decide +kernel
theorem ef_3_2 (m : MethodId) (x0 : Addr) (x2 : Addr) : entryFrame m #[(.ref x0), .null, (.ref x2)] 3 = mkF m 0 #[.val (.ref x0), .val .null, .val (.ref x2)] [] := by first | (simp [entryFrame, mkF, argsToLocals, Value.category]; done) | rfl
theorem pn_2 : plainName "com/example/larch/larch/model/RenewalLimit" = true := by first | (simp [plainName, overriddenIn]; done) | decide +kernel
def Q_rm3_0 (Z : State) (a1 : Addr) (w2 : Addr) (h0 : Heap) (n0 : Nat) (v : Option Value) (h : Heap) (L : List Loc) : Prop := v = none ∧ Fr n0 L ∧ Keep h0 h [a1] ∧ Fld Z h a1 "com/example/larch/larch/model/RenewalLimit" "lastChargeDay" "Ljava/time/LocalDate;" .null ∧ Fld Z h a1 "com/example/larch/larch/model/RenewalLimit" "remainingPeriods" "Ljava/lang/Integer;" (.ref w2)
set_option maxRecDepth 65536 in
set_option maxHeartbeats 40000000 in
theorem rm3_0 (l : Launch) (Z : State) (a0 : Array Value) (hw : ∀ d ∈ tables_1, d.before a0 Z = true) (ws : List Jvm.Cond) (a1 : Addr) (w2 : Addr) (h0 : Heap) (n0 : Nat) (OL0 : Old Z n0 h0) (pr1 : Exa Z h0 a1 "com/example/larch/larch/model/RenewalLimit") (pr2 : Fld Z h0 a1 "com/example/larch/larch/model/RenewalLimit" "lastChargeDay" "Ljava/time/LocalDate;" .null) (pr3 : n0 ≤ a1) (pr4 : Fld Z h0 a1 "com/example/larch/larch/model/RenewalLimit" "remainingPeriods" "Ljava/lang/Integer;" .null) :
    MetFree l (⟨"com/example/larch/larch/model/RenewalLimit", "<init>", "(Ljava/time/LocalDate;Ljava/lang/Integer;)V"⟩ : MethodName) (head1 (Jvm.Cond.code (⟨"com/example/larch/larch/model/RenewalLimit", "<init>", "(Ljava/time/LocalDate;Ljava/lang/Integer;)V"⟩ : MethodName) prog_18_method_1_code 3 none :: ws) ({ frames := 1, cells := 0, slots := 0, locals := 12 } : Room)) (fun a U => a = #[(.ref a1), .null, (.ref w2)] ∧ Z.Warmed39 U.vm ∧ U.heap = h0) (fun _ _ _ _ _ => True) (fun _ U o U' => ∃ v L, o = .returned v ∧ Q_rm3_0 Z a1 w2 h0 n0 v U'.heap L ∧ FrameEnd U o U' L ({ frames := 1, cells := 0, slots := 0, locals := 12 } : Room).cells ({ frames := 1, cells := 0, slots := 0, locals := 12 } : Room).slots) := by
  refine MetFree.of_bodySF (plainFor_of_name pn_2) hisR ?_
  intro p e s m args below meth c s₁ Bd hml0 hP hK
  obtain ⟨rfl, hZ, hh⟩ := hP
  have hx := Bd.exec
  have hby := Bd.bytes
  have hml : c.maxLocals = 3 := hml0
  have hown : s.vm.findClass "com/example/larch/larch/model/RenewalLimit" = some m.cls := findClass_of_methodNamed Bd.named
  have hnm := (name_of_methodNamed Bd.named Bd.method).1
  have X0 : Stand p l e ({ frames := 1, cells := 0, slots := 0, locals := 12 } : Room) s m #[(.ref a1), .null, (.ref w2)] below meth c s₁ [] 0 0 := Stand.of_body Bd
  have e0 : s₁.heap = h0 := by rw [← hh, Bd.state]; rfl
  have N0 := Fr.nil n0
  have pre0 : ∀ t, Steps p.tables e below (s₁.setTop (mkF m 0 #[.val (.ref a1), .val .null, .val (.ref w2)] [])) t → Steps p.tables e below (s₁.setTop (entryFrame m #[(.ref a1), .null, (.ref w2)] 3)) t := fun t k => castTop (ef_3_2 m a1 w2) k
  obtain ⟨T3, X3, e3, st3⟩ := initO X0 hx hZ hown (wd17 hw) (wd18 hw) (wd19 hw) e0 (g := (mkF m 1 #[.val (.ref a1), .val .null, .val (.ref w2)] [(.ref a1)])) rfl (by rw [hml]; rfl) rfl (hb hby d3_1) (by decide) (W := 0) (by show 2 * 0 + _ ≤ _; exact Nat.le_of_eq rfl) (by decide)
  obtain ⟨T4, h4, X4, e4, W4, st4⟩ := putF X3 hx hZ hown (host := "") (Or.inl (wd20 hw)) Via.refl e3 pr2 pr1 (Or.inr ⟨(wd21 hw), rfl, hnm⟩) (wd6 hw) (ty := (.object "java/time/LocalDate")) (by decide) rfl rfl (g := (mkF m 6 #[.val (.ref a1), .val .null, .val (.ref w2)] [.null, (.ref a1)])) rfl rfl (hb hby d3_6)
  have Fw4 := pr2.same W4
  have KK4 : Keep h0 h4 [a1] := (Keep.refl h0 [a1]).wr W4 (Or.inl (List.mem_of_getElem? (i := 0) rfl))
  have OL4 := OL0.wr W4 pr3
  have N4 := Fr.snoc X4 N0 pr3
  have fc5 := (pr1.wr W4)
  have fc6 := (pr4.other W4 (Or.inr (slot_ne (Or.inr (wd23 hw)) (Or.inr (wd21 hw)) (by decide) (t := (.object "java/lang/Integer")) (t' := (.object "java/time/LocalDate")) (by decide) (by decide))))
  obtain ⟨T7, h7, X7, e7, W7, st7⟩ := putF X4 hx hZ hown (host := "") (Or.inl (wd22 hw)) Via.refl e4 fc6 fc5 (Or.inr ⟨(wd23 hw), rfl, hnm⟩) (wd6 hw) (ty := (.object "java/lang/Integer")) (by decide) rfl rfl (g := (mkF m 11 #[.val (.ref a1), .val .null, .val (.ref w2)] [(.ref w2), (.ref a1)])) rfl rfl (hb hby d3_11)
  have Fw7 := fc6.same W7
  have KK7 : Keep h0 h7 [a1] := KK4.wr W7 (Or.inl (List.mem_of_getElem? (i := 0) rfl))
  have OL7 := OL4.wr W7 pr3
  have N7 := Fr.snoc X7 N4 pr3
  have fc8 := (Fw4.other W7 (Or.inr (slot_ne (Or.inr (wd21 hw)) (Or.inr (wd23 hw)) (by decide) (t := (.object "java/time/LocalDate")) (t' := (.object "java/lang/Integer")) (by decide) (by decide))))
  obtain ⟨fs, hr, hrun, hended, hW, hsame⟩ := X7.leave (v := none) (fun _ => rfl)
  refine ⟨_, _, pre0 _ ?_, hrun, hended, _, _, rfl, ?_, ⟨_, rfl⟩, hW, hsame.mono (by decide) (by decide)⟩
  · show Steps p.tables e below (s₁.setTop (mkF m 0 #[.val (.ref a1), .val .null, .val (.ref w2)] [])) _
    refine XS.aloadN X0.here hx rfl (hb hby d3_0) rfl rfl ?_
    show Steps p.tables e below (s₁.setTop (mkF m 1 #[.val (.ref a1), .val .null, .val (.ref w2)] [(.ref a1)])) _
    refine st3 _ ?_
    show Steps p.tables e below (T3.setTop (mkF m 4 #[.val (.ref a1), .val .null, .val (.ref w2)] [])) _
    refine XS.aloadN X3.here hx rfl (hb hby d3_4) rfl rfl ?_
    show Steps p.tables e below (T3.setTop (mkF m 5 #[.val (.ref a1), .val .null, .val (.ref w2)] [(.ref a1)])) _
    refine XS.aloadN X3.here hx rfl (hb hby d3_5) rfl rfl ?_
    show Steps p.tables e below (T3.setTop (mkF m 6 #[.val (.ref a1), .val .null, .val (.ref w2)] [.null, (.ref a1)])) _
    refine st4 _ ?_
    show Steps p.tables e below (T4.setTop (mkF m 9 #[.val (.ref a1), .val .null, .val (.ref w2)] [])) _
    refine XS.aloadN X4.here hx rfl (hb hby d3_9) rfl rfl ?_
    show Steps p.tables e below (T4.setTop (mkF m 10 #[.val (.ref a1), .val .null, .val (.ref w2)] [(.ref a1)])) _
    refine XS.aloadN X4.here hx rfl (hb hby d3_10) rfl rfl ?_
    show Steps p.tables e below (T4.setTop (mkF m 11 #[.val (.ref a1), .val .null, .val (.ref w2)] [(.ref w2), (.ref a1)])) _
    refine st7 _ ?_
    show Steps p.tables e below (T7.setTop (mkF m 14 #[.val (.ref a1), .val .null, .val (.ref w2)] [])) _
    exact X7.returnOut hx Bd.returns (hb hby d3_14) hr
  · show Q_rm3_0 Z a1 w2 h0 n0 _ T7.heap _
    rw [e7]
    exact ⟨rfl, N7, KK7, fc8, Fw7⟩
theorem pd_1 : parseMethodDescriptor "(Ljava/time/LocalDate;Ljava/lang/Integer;)V" = some ⟨[(.object "java/time/LocalDate"), (.object "java/lang/Integer")], none⟩ := by decide +kernel
theorem d1_31 : decode prog_18_method_3_code 31 = .ok (.areturn, 1) := by decide +kernel
theorem ef_1_3 (m : MethodId) (x0 : Int32) : entryFrame m #[(.int x0)] 1 = mkF m 0 #[.val (.int x0)] [] := by first | (simp [entryFrame, mkF, argsToLocals, Value.category]; done) | rfl
def Q_rm1_0 (Z : State) (p1 : Int32) (w3 : Addr) (w4 : Addr) (h0 : Heap) (n0 : Nat) (v : Option Value) (h : Heap) (L : List Loc) : Prop := ∃ b2 : Addr, v = some (.ref b2) ∧ Fr n0 L ∧ Keep h0 h [] ∧ h0.size ≤ b2 ∧ Exa Z h b2 "com/example/larch/larch/model/RenewalLimit" ∧ Fld Z h b2 "com/example/larch/larch/model/RenewalLimit" "lastChargeDay" "Ljava/time/LocalDate;" .null ∧ Fld Z h b2 "com/example/larch/larch/model/RenewalLimit" "remainingPeriods" "Ljava/lang/Integer;" (.ref w4)
set_option maxRecDepth 65536 in
set_option maxHeartbeats 40000000 in
theorem rm1_0 (l : Launch) (Z : State) (a0 : Array Value) (hw : ∀ d ∈ tables_1, d.before a0 Z = true) (ws : List Jvm.Cond) (p1 : Int32) (w3 : Addr) (w4 : Addr) (h0 : Heap) (n0 : Nat) (OL0 : Old Z n0 h0) (pr1 : ¬ (p1 < (1 : Int32))) (pr2 : ¬ (p1 < (-128 : Int32))) (pr3 : Sta Z Z.heap "java/lang/Integer$IntegerCache" "high" "I" (.int (127 : Int32))) (pr4 : ¬ ((127 : Int32) < p1)) (pr5 : Sta Z Z.heap "java/lang/Integer$IntegerCache" "cache" "[Ljava/lang/Integer;" (.ref w3)) (pr6 : AtC Z w3 (.object "java/lang/Integer") (p1 + (128 : Int32)) w4) :
    MetFree l (⟨"com/example/larch/larch/model/RenewalLimit", "forPeriods", "(I)Lcom/example/larch/larch/model/RenewalLimit;"⟩ : MethodName) (head1 (Jvm.Cond.code (⟨"com/example/larch/larch/model/RenewalLimit", "forPeriods", "(I)Lcom/example/larch/larch/model/RenewalLimit;"⟩ : MethodName) prog_18_method_3_code 1 (some (.object "com/example/larch/larch/model/RenewalLimit")) :: ws) ({ frames := 2, cells := 1, slots := 2, locals := 27 } : Room)) (fun a U => a = #[(.int p1)] ∧ Z.Warmed39 U.vm ∧ U.heap = h0) (fun _ _ _ _ _ => True) (fun _ U o U' => ∃ v L, o = .returned v ∧ Q_rm1_0 Z p1 w3 w4 h0 n0 v U'.heap L ∧ FrameEnd U o U' L ({ frames := 2, cells := 1, slots := 2, locals := 27 } : Room).cells ({ frames := 2, cells := 1, slots := 2, locals := 27 } : Room).slots) := by
  refine MetFree.of_bodySF (plainFor_of_name pn_2) hisR ?_
  intro p e s m args below meth c s₁ Bd hml0 hP hK
  obtain ⟨rfl, hZ, hh⟩ := hP
  have hx := Bd.exec
  have hby := Bd.bytes
  have hml : c.maxLocals = 1 := hml0
  have hown : s.vm.findClass "com/example/larch/larch/model/RenewalLimit" = some m.cls := findClass_of_methodNamed Bd.named
  have hnm := (name_of_methodNamed Bd.named Bd.method).1
  have X0 : Stand p l e ({ frames := 2, cells := 1, slots := 2, locals := 27 } : Room) s m #[(.int p1)] below meth c s₁ [] 0 0 := Stand.of_body Bd
  have e0 : s₁.heap = h0 := by rw [← hh, Bd.state]; rfl
  have N0 := Fr.nil n0
  have pre0 : ∀ t, Steps p.tables e below (s₁.setTop (mkF m 0 #[.val (.int p1)] [])) t → Steps p.tables e below (s₁.setTop (entryFrame m #[(.int p1)] 1)) t := fun t k => castTop (ef_1_3 m p1) k
  obtain ⟨T2, h2, X2, e2, E2, A2, D2, -, st2⟩ := newO X0 hx hZ hown (wd5 hw) (wd6 hw) (wd3 hw) e0 (g := (mkF m 19 #[.val (.int p1)] [])) rfl (hb hby d1_19) (by decide) (by decide)
  obtain ⟨b2, g2⟩ : ∃ z, z = h0.size := ⟨_, rfl⟩
  rw [← g2] at A2 D2 st2
  have g_b2 : n0 ≤ b2 := (Nat.le_trans (Nat.le_trans (Nat.le_of_eq OL0.1.symm) OL0.2.1) (Nat.le_of_eq g2.symm))
  have sz_b2 : h0.size ≤ b2 := (Nat.le_trans (Keep.refl h0 []).1 (Nat.le_of_eq g2.symm))
  have KK2 : Keep h0 h2 [] := (Keep.refl h0 []).ext E2
  have OL2 := OL0.ext E2
  have F_lastChargeDay_b2 : Fld Z h2 b2 "com/example/larch/larch/model/RenewalLimit" "lastChargeDay" "Ljava/time/LocalDate;" .null := D2 (Or.inr (wd21 hw)) (ty := (.object "java/time/LocalDate")) (by decide)
  have F_remainingPeriods_b2 : Fld Z h2 b2 "com/example/larch/larch/model/RenewalLimit" "remainingPeriods" "Ljava/lang/Integer;" .null := D2 (Or.inr (wd23 hw)) (ty := (.object "java/lang/Integer")) (by decide)
  obtain ⟨_, _, ⟨T5, L5, k5, n5⟩, -, X5, ⟨Lc5, hQ5, l5, y5, z5⟩, st5⟩ := Jvm.LawKit.callS X2 hx (y := (⟨"java/lang/Integer", "valueOf", "(I)Ljava/lang/Integer;"⟩ : MethodName)) hown (mvT hZ (wd7 hw)) (mvT hZ (wd8 hw)) (mvT hZ (wd9 hw)) (mvT hZ (wd10 hw)) (by decide) (backOf (W := 3) (rm2_0 l Z a0 hw [] p1 w3 w4 h2 n0 OL2 pr2 pr3 pr4 pr5 pr6) hZ (wd10 hw) (wd9 hw) (by decide) (by decide)) (g := (mkF m 25 #[.val (.int p1)] [(.int p1), .null, (.ref b2), (.ref b2)])) rfl (by rw [hml]; rfl) (argsL := [(.int p1)]) (rest := [.null, (.ref b2), (.ref b2)]) (lenOf pd_0 rfl) rfl (by show 2 * 0 + _ ≤ _; exact Nat.le_of_eq rfl) (hb hby d1_25) (fun _ _ => ⟨rfl, e2, (by decide : 1 + 0 ≤ _), (by decide : 2 + 0 ≤ _)⟩)
  dsimp only [Pt.U, Pt.locs, Pt.cells, Pt.slots] at X5 l5 y5 z5 st5 hQ5
  subst l5 y5 z5
  obtain ⟨rfl, Nq5, ec5⟩ := hQ5
  have N5 := Fr.app N0 Nq5
  obtain ⟨_, _, ⟨T6, L6, k6, n6⟩, -, X6, ⟨Lc6, hQ6, l6, y6, z6⟩, st6⟩ := X5.specialBack hx (y := (⟨"com/example/larch/larch/model/RenewalLimit", "<init>", "(Ljava/time/LocalDate;Ljava/lang/Integer;)V"⟩ : MethodName)) rfl hown (mvT hZ (wd14 hw)) (mvT hZ (wd15 hw)) (mvT hZ (wd16 hw)) (by decide) (backOf (W := 1) (rm3_0 l Z a0 hw [] b2 w4 h2 n0 OL2 A2 F_lastChargeDay_b2 g_b2 F_remainingPeriods_b2) hZ (wd16 hw) (wd3 hw) (by decide) (by decide)) (g := (mkF m 28 #[.val (.int p1)] [(.ref w4), .null, (.ref b2), (.ref b2)])) rfl (by rw [hml]; rfl) (Steps.refl _) (a := b2) (argsL := [.null, (.ref w4)]) (rest := [(.ref b2)]) (lenOf pd_1 rfl) rfl (by show 2 * 0 + _ ≤ _; exact Nat.le_of_eq rfl) (hb hby d1_28) (fun _ _ => ⟨rfl, ec5, (by decide : 1 + 0 ≤ _), (by decide : 2 + 0 ≤ _)⟩)
  dsimp only [Pt.U, Pt.locs, Pt.cells, Pt.slots] at X6 l6 y6 z6 st6 hQ6
  subst l6 y6 z6
  obtain ⟨rfl, Nq6, K6, u6_0, u6_1⟩ := hQ6
  have KK6 : Keep h0 T6.heap [] := KK2.trans K6 (allS (Or.inr sz_b2) all0)
  have OL6 := OL2.keep K6 (allS g_b2 all0)
  have N6 := Fr.app N5 Nq6
  have fc7 := (A2.keep K6)
  obtain ⟨fs, hr, hrun, hended, hW, hsame⟩ := X6.leave (v := some (.ref b2)) (fun h => by rw [Bd.returns] at h; cases h)
  refine ⟨_, _, pre0 _ ?_, hrun, hended, _, _, rfl, ?_, ⟨_, rfl⟩, hW, hsame.mono (by decide) (by decide)⟩
  · show Steps p.tables e below (s₁.setTop (mkF m 0 #[.val (.int p1)] [])) _
    refine XS.iloadN X0.here hx rfl (hb hby d1_0) rfl ?_
    show Steps p.tables e below (s₁.setTop (mkF m 1 #[.val (.int p1)] [(.int p1)])) _
    refine XS.iconst X0.here hx rfl (hb hby d1_1) ?_
    show Steps p.tables e below (s₁.setTop (mkF m 2 #[.val (.int p1)] [(.int (1 : Int32)), (.int p1)])) _
    refine XS.icmpYes X0.here hx rfl (pc0 := 2) (pc' := 19) rfl (hb hby d1_2) rfl (flt pr1).2.1 (by decide) (by decide) ?_
    show Steps p.tables e below (s₁.setTop (mkF m 19 #[.val (.int p1)] [])) _
    refine st2 _ ?_
    show Steps p.tables e below (T2.setTop (mkF m 22 #[.val (.int p1)] [(.ref b2)])) _
    refine XS.dup X2.here hx rfl (hb hby d1_22) rfl rfl ?_
    show Steps p.tables e below (T2.setTop (mkF m 23 #[.val (.int p1)] [(.ref b2), (.ref b2)])) _
    refine XS.aconstNull X2.here hx rfl (hb hby d1_23) ?_
    show Steps p.tables e below (T2.setTop (mkF m 24 #[.val (.int p1)] [.null, (.ref b2), (.ref b2)])) _
    refine XS.iloadN X2.here hx rfl (hb hby d1_24) rfl ?_
    show Steps p.tables e below (T2.setTop (mkF m 25 #[.val (.int p1)] [(.int p1), .null, (.ref b2), (.ref b2)])) _
    refine st5 _ ?_
    show Steps p.tables e below (T5.setTop (mkF m 28 #[.val (.int p1)] [(.ref w4), .null, (.ref b2), (.ref b2)])) _
    refine st6.trans ?_
    show Steps p.tables e below (T6.setTop (mkF m 31 #[.val (.int p1)] [(.ref b2)])) _
    jvm_step X6.here [X6.here.top, hx, (hb hby d1_31), X6.method', Bd.returns, Value.isRef, FieldType.isReference]
    first | (intro acts; rw [hr _ acts rfl rfl rfl]) | rw [hr _ _ rfl rfl rfl]
    exact Steps.refl _
  · show Q_rm1_0 Z p1 w3 w4 h0 n0 _ T6.heap _
    exact ⟨b2, rfl, N6, KK6, sz_b2, fc7, u6_0, u6_1⟩
theorem pd_2 : parseMethodDescriptor "(I)Lcom/example/larch/larch/model/RenewalLimit;" = some ⟨[.int], some (.object "com/example/larch/larch/model/RenewalLimit")⟩ := by decide +kernel
theorem d5_0 : decode prog_18_method_5_code 0 = .ok (.aload_n 0, 1) := by decide +kernel
theorem d5_1 : decode prog_18_method_5_code 1 = .ok (.getfield 13, 3) := by decide +kernel
theorem d5_4 : decode prog_18_method_5_code 4 = .ok (.areturn, 1) := by decide +kernel
theorem ef_5_4 (m : MethodId) (x0 : Addr) : entryFrame m #[(.ref x0)] 1 = mkF m 0 #[.val (.ref x0)] [] := by first | (simp [entryFrame, mkF, argsToLocals, Value.category]; done) | rfl
def Q_rm5_0 (Z : State) (a1 : Addr) (w2 : Addr) (h0 : Heap) (n0 : Nat) (v : Option Value) (h : Heap) (L : List Loc) : Prop := v = some (.ref w2) ∧ Fr n0 L ∧ h = h0
set_option maxRecDepth 65536 in
set_option maxHeartbeats 40000000 in
theorem rm5_0 (l : Launch) (Z : State) (a0 : Array Value) (hw : ∀ d ∈ tables_1, d.before a0 Z = true) (ws : List Jvm.Cond) (a1 : Addr) (w2 : Addr) (h0 : Heap) (n0 : Nat) (OL0 : Old Z n0 h0) (pr1 : Fld Z h0 a1 "com/example/larch/larch/model/RenewalLimit" "remainingPeriods" "Ljava/lang/Integer;" (.ref w2)) :
    MetFree l (⟨"com/example/larch/larch/model/RenewalLimit", "remainingPeriods", "()Ljava/lang/Integer;"⟩ : MethodName) (head1 (Jvm.Cond.code (⟨"com/example/larch/larch/model/RenewalLimit", "remainingPeriods", "()Ljava/lang/Integer;"⟩ : MethodName) prog_18_method_5_code 1 (some (.object "java/lang/Integer")) :: ws) ({ frames := 0, cells := 0, slots := 0, locals := 0 } : Room)) (fun a U => a = #[(.ref a1)] ∧ Z.Warmed39 U.vm ∧ U.heap = h0) (fun _ _ _ _ _ => True) (fun _ U o U' => ∃ v L, o = .returned v ∧ Q_rm5_0 Z a1 w2 h0 n0 v U'.heap L ∧ FrameEnd U o U' L ({ frames := 0, cells := 0, slots := 0, locals := 0 } : Room).cells ({ frames := 0, cells := 0, slots := 0, locals := 0 } : Room).slots) := by
  refine MetFree.of_bodySF (plainFor_of_name pn_2) hisR ?_
  intro p e s m args below meth c s₁ Bd hml0 hP hK
  obtain ⟨rfl, hZ, hh⟩ := hP
  have hx := Bd.exec
  have hby := Bd.bytes
  have hml : c.maxLocals = 1 := hml0
  have hown : s.vm.findClass "com/example/larch/larch/model/RenewalLimit" = some m.cls := findClass_of_methodNamed Bd.named
  have hnm := (name_of_methodNamed Bd.named Bd.method).1
  have X0 : Stand p l e ({ frames := 0, cells := 0, slots := 0, locals := 0 } : Room) s m #[(.ref a1)] below meth c s₁ [] 0 0 := Stand.of_body Bd
  have e0 : s₁.heap = h0 := by rw [← hh, Bd.state]; rfl
  have N0 := Fr.nil n0
  have pre0 : ∀ t, Steps p.tables e below (s₁.setTop (mkF m 0 #[.val (.ref a1)] [])) t → Steps p.tables e below (s₁.setTop (entryFrame m #[(.ref a1)] 1)) t := fun t k => castTop (ef_5_4 m a1) k
  obtain ⟨T3, X3, e3, st3⟩ := getF X0 hx hZ hown (host := "") (Or.inl (wd22 hw)) Via.refl e0 pr1 (g := (mkF m 1 #[.val (.ref a1)] [(.ref a1)])) rfl rfl (hb hby d5_1)
  obtain ⟨fs, hr, hrun, hended, hW, hsame⟩ := X3.leave (v := some (.ref w2)) (fun h => by rw [Bd.returns] at h; cases h)
  refine ⟨_, _, pre0 _ ?_, hrun, hended, _, _, rfl, ?_, ⟨_, rfl⟩, hW, hsame.mono (by decide) (by decide)⟩
  · show Steps p.tables e below (s₁.setTop (mkF m 0 #[.val (.ref a1)] [])) _
    refine XS.aloadN X0.here hx rfl (hb hby d5_0) rfl rfl ?_
    show Steps p.tables e below (s₁.setTop (mkF m 1 #[.val (.ref a1)] [(.ref a1)])) _
    refine st3 _ ?_
    show Steps p.tables e below (T3.setTop (mkF m 4 #[.val (.ref a1)] [(.ref w2)])) _
    jvm_step X3.here [X3.here.top, hx, (hb hby d5_4), X3.method', Bd.returns, Value.isRef, FieldType.isReference]
    first | (intro acts; rw [hr _ acts rfl rfl rfl]) | rw [hr _ _ rfl rfl rfl]
    exact Steps.refl _
  · show Q_rm5_0 Z a1 w2 h0 n0 _ T3.heap _
    rw [e3]
    exact ⟨rfl, N0, rfl⟩
theorem pd_3 : parseMethodDescriptor "()Ljava/lang/Integer;" = some ⟨[], some (.object "java/lang/Integer")⟩ := by decide +kernel
theorem d6_0 : decode jdk_33_method_27_code 0 = .ok (.aload_n 0, 1) := by decide +kernel
theorem d6_1 : decode jdk_33_method_27_code 1 = .ok (.getfield 205, 3) := by decide +kernel
theorem d6_4 : decode jdk_33_method_27_code 4 = .ok (.ireturn, 1) := by decide +kernel
theorem ef_6_5 (m : MethodId) (x0 : Addr) : entryFrame m #[(.ref x0)] 1 = mkF m 0 #[.val (.ref x0)] [] := by first | (simp [entryFrame, mkF, argsToLocals, Value.category]; done) | rfl
def Q_rm6_0 (Z : State) (w1 : Addr) (p2 : Int32) (h0 : Heap) (n0 : Nat) (v : Option Value) (h : Heap) (L : List Loc) : Prop := v = some (.int p2) ∧ Fr n0 L ∧ h = h0
set_option maxRecDepth 65536 in
set_option maxHeartbeats 40000000 in
theorem rm6_0 (l : Launch) (Z : State) (a0 : Array Value) (hw : ∀ d ∈ tables_1, d.before a0 Z = true) (ws : List Jvm.Cond) (w1 : Addr) (p2 : Int32) (h0 : Heap) (n0 : Nat) (OL0 : Old Z n0 h0) (pr1 : Fld Z Z.heap w1 "java/lang/Integer" "value" "I" (.int p2)) :
    MetFree l (⟨"java/lang/Integer", "intValue", "()I"⟩ : MethodName) (head1 (Jvm.Cond.code (⟨"java/lang/Integer", "intValue", "()I"⟩ : MethodName) jdk_33_method_27_code 1 (some .int) :: ws) ({ frames := 0, cells := 0, slots := 0, locals := 0 } : Room)) (fun a U => a = #[(.ref w1)] ∧ Z.Warmed39 U.vm ∧ U.heap = h0) (fun _ _ _ _ _ => True) (fun _ U o U' => ∃ v L, o = .returned v ∧ Q_rm6_0 Z w1 p2 h0 n0 v U'.heap L ∧ FrameEnd U o U' L ({ frames := 0, cells := 0, slots := 0, locals := 0 } : Room).cells ({ frames := 0, cells := 0, slots := 0, locals := 0 } : Room).slots) := by
  refine MetFree.of_bodySF (plainFor_of_name pn_1) hisR ?_
  intro p e s m args below meth c s₁ Bd hml0 hP hK
  obtain ⟨rfl, hZ, hh⟩ := hP
  have hx := Bd.exec
  have hby := Bd.bytes
  have hml : c.maxLocals = 1 := hml0
  have hown : s.vm.findClass "java/lang/Integer" = some m.cls := findClass_of_methodNamed Bd.named
  have hnm := (name_of_methodNamed Bd.named Bd.method).1
  have X0 : Stand p l e ({ frames := 0, cells := 0, slots := 0, locals := 0 } : Room) s m #[(.ref w1)] below meth c s₁ [] 0 0 := Stand.of_body Bd
  have e0 : s₁.heap = h0 := by rw [← hh, Bd.state]; rfl
  have N0 := Fr.nil n0
  have pre0 : ∀ t, Steps p.tables e below (s₁.setTop (mkF m 0 #[.val (.ref w1)] [])) t → Steps p.tables e below (s₁.setTop (entryFrame m #[(.ref w1)] 1)) t := fun t k => castTop (ef_6_5 m w1) k
  obtain ⟨T3, X3, e3, st3⟩ := getF X0 hx hZ hown (host := "") (Or.inl (wd36 hw)) Via.refl e0 (pr1.ext OL0.2) (g := (mkF m 1 #[.val (.ref w1)] [(.ref w1)])) rfl rfl (hb hby d6_1)
  obtain ⟨fs, hr, hrun, hended, hW, hsame⟩ := X3.leave (v := some (.int p2)) (fun h => by rw [Bd.returns] at h; cases h)
  refine ⟨_, _, pre0 _ ?_, hrun, hended, _, _, rfl, ?_, ⟨_, rfl⟩, hW, hsame.mono (by decide) (by decide)⟩
  · show Steps p.tables e below (s₁.setTop (mkF m 0 #[.val (.ref w1)] [])) _
    refine XS.aloadN X0.here hx rfl (hb hby d6_0) rfl rfl ?_
    show Steps p.tables e below (s₁.setTop (mkF m 1 #[.val (.ref w1)] [(.ref w1)])) _
    refine st3 _ ?_
    show Steps p.tables e below (T3.setTop (mkF m 4 #[.val (.ref w1)] [(.int p2)])) _
    exact retI X3 hx Bd.returns (hb hby d6_4) hr
  · show Q_rm6_0 Z w1 p2 h0 n0 _ T3.heap _
    rw [e3]
    exact ⟨rfl, N0, rfl⟩
theorem pd_4 : parseMethodDescriptor "()I" = some ⟨[], some .int⟩ := by decide +kernel
theorem d7_0 : decode prog_18_method_4_code 0 = .ok (.aload_n 0, 1) := by decide +kernel
theorem d7_1 : decode prog_18_method_4_code 1 = .ok (.getfield 7, 3) := by decide +kernel
theorem d7_4 : decode prog_18_method_4_code 4 = .ok (.areturn, 1) := by decide +kernel
theorem ef_7_6 (m : MethodId) (x0 : Addr) : entryFrame m #[(.ref x0)] 1 = mkF m 0 #[.val (.ref x0)] [] := by first | (simp [entryFrame, mkF, argsToLocals, Value.category]; done) | rfl
def Q_rm7_0 (Z : State) (a1 : Addr) (h0 : Heap) (n0 : Nat) (v : Option Value) (h : Heap) (L : List Loc) : Prop := v = some .null ∧ Fr n0 L ∧ h = h0
set_option maxRecDepth 65536 in
set_option maxHeartbeats 40000000 in
theorem rm7_0 (l : Launch) (Z : State) (a0 : Array Value) (hw : ∀ d ∈ tables_1, d.before a0 Z = true) (ws : List Jvm.Cond) (a1 : Addr) (h0 : Heap) (n0 : Nat) (OL0 : Old Z n0 h0) (pr1 : Fld Z h0 a1 "com/example/larch/larch/model/RenewalLimit" "lastChargeDay" "Ljava/time/LocalDate;" .null) :
    MetFree l (⟨"com/example/larch/larch/model/RenewalLimit", "lastChargeDay", "()Ljava/time/LocalDate;"⟩ : MethodName) (head1 (Jvm.Cond.code (⟨"com/example/larch/larch/model/RenewalLimit", "lastChargeDay", "()Ljava/time/LocalDate;"⟩ : MethodName) prog_18_method_4_code 1 (some (.object "java/time/LocalDate")) :: ws) ({ frames := 0, cells := 0, slots := 0, locals := 0 } : Room)) (fun a U => a = #[(.ref a1)] ∧ Z.Warmed39 U.vm ∧ U.heap = h0) (fun _ _ _ _ _ => True) (fun _ U o U' => ∃ v L, o = .returned v ∧ Q_rm7_0 Z a1 h0 n0 v U'.heap L ∧ FrameEnd U o U' L ({ frames := 0, cells := 0, slots := 0, locals := 0 } : Room).cells ({ frames := 0, cells := 0, slots := 0, locals := 0 } : Room).slots) := by
  refine MetFree.of_bodySF (plainFor_of_name pn_2) hisR ?_
  intro p e s m args below meth c s₁ Bd hml0 hP hK
  obtain ⟨rfl, hZ, hh⟩ := hP
  have hx := Bd.exec
  have hby := Bd.bytes
  have hml : c.maxLocals = 1 := hml0
  have hown : s.vm.findClass "com/example/larch/larch/model/RenewalLimit" = some m.cls := findClass_of_methodNamed Bd.named
  have hnm := (name_of_methodNamed Bd.named Bd.method).1
  have X0 : Stand p l e ({ frames := 0, cells := 0, slots := 0, locals := 0 } : Room) s m #[(.ref a1)] below meth c s₁ [] 0 0 := Stand.of_body Bd
  have e0 : s₁.heap = h0 := by rw [← hh, Bd.state]; rfl
  have N0 := Fr.nil n0
  have pre0 : ∀ t, Steps p.tables e below (s₁.setTop (mkF m 0 #[.val (.ref a1)] [])) t → Steps p.tables e below (s₁.setTop (entryFrame m #[(.ref a1)] 1)) t := fun t k => castTop (ef_7_6 m a1) k
  obtain ⟨T2, X2, e2, st2⟩ := getF X0 hx hZ hown (host := "") (Or.inl (wd20 hw)) Via.refl e0 pr1 (g := (mkF m 1 #[.val (.ref a1)] [(.ref a1)])) rfl rfl (hb hby d7_1)
  obtain ⟨fs, hr, hrun, hended, hW, hsame⟩ := X2.leave (v := some .null) (fun h => by rw [Bd.returns] at h; cases h)
  refine ⟨_, _, pre0 _ ?_, hrun, hended, _, _, rfl, ?_, ⟨_, rfl⟩, hW, hsame.mono (by decide) (by decide)⟩
  · show Steps p.tables e below (s₁.setTop (mkF m 0 #[.val (.ref a1)] [])) _
    refine XS.aloadN X0.here hx rfl (hb hby d7_0) rfl rfl ?_
    show Steps p.tables e below (s₁.setTop (mkF m 1 #[.val (.ref a1)] [(.ref a1)])) _
    refine st2 _ ?_
    show Steps p.tables e below (T2.setTop (mkF m 4 #[.val (.ref a1)] [.null])) _
    jvm_step X2.here [X2.here.top, hx, (hb hby d7_4), X2.method', Bd.returns, Value.isRef, FieldType.isReference]
    first | (intro acts; rw [hr _ acts rfl rfl rfl]) | rw [hr _ _ rfl rfl rfl]
    exact Steps.refl _
  · show Q_rm7_0 Z a1 h0 n0 _ T2.heap _
    rw [e2]
    exact ⟨rfl, N0, rfl⟩
theorem pd_5 : parseMethodDescriptor "()Ljava/time/LocalDate;" = some ⟨[], some (.object "java/time/LocalDate")⟩ := by decide +kernel
set_option maxRecDepth 65536 in
set_option maxHeartbeats 40000000 in
theorem rm0_s (l : Launch) (Z : State) (a0 : Array Value) (hw : ∀ d ∈ tables_1, d.before a0 Z = true) (ws : List Jvm.Cond) (p1 : Int32) (w_cache : Addr) (wc1 : Addr) (w_NONE : Addr) (h0 : Heap) (n0 : Nat) (OL0 : Old Z n0 h0) (pr1 : ¬ ((p1 &&& (2147483647 : Int32)) = (0 : Int32))) (pr2 : ¬ ((p1 &&& (2147483647 : Int32)) < (1 : Int32))) (pr3 : ¬ ((p1 &&& (2147483647 : Int32)) < (-128 : Int32))) (pr4 : Sta Z Z.heap "java/lang/Integer$IntegerCache" "high" "I" (.int (127 : Int32))) (pr5 : ¬ ((127 : Int32) < (p1 &&& (2147483647 : Int32)))) (pr6 : Sta Z Z.heap "java/lang/Integer$IntegerCache" "cache" "[Ljava/lang/Integer;" (.ref w_cache)) (pr7 : AtC Z w_cache (.object "java/lang/Integer") ((p1 &&& (2147483647 : Int32)) + (128 : Int32)) wc1) (pr8 : Sta Z Z.heap "com/example/larch/larch/model/RenewalLimit" "NONE" "Lcom/example/larch/larch/model/RenewalLimit;" (.ref w_NONE)) (pr9 : Exa Z Z.heap w_NONE "com/example/larch/larch/model/RenewalLimit") (pr10 : Fld Z Z.heap wc1 "java/lang/Integer" "value" "I" (.int (p1 &&& (2147483647 : Int32)))) (pr11 : Exa Z Z.heap wc1 "java/lang/Integer") :
    MetFree l x (head1 (Jvm.Cond.code x code maxLocals ret :: ws) room_1) (fun a U => a = #[(.int p1)] ∧ Z.Warmed39 U.vm ∧ U.heap = h0) (fun _ _ _ _ _ => True) (fun _ U o U' => ∃ v L, o = .returned v ∧ Q0 n0 v L ∧ FrameEnd U o U' L 16 128) := by
  refine MetFree.of_bodySF (plainFor_of_name pn_0) hisR ?_
  intro p e s m args below meth c s₁ Bd hml0 hP hK
  obtain ⟨rfl, hZ, hh⟩ := hP
  have hx := Bd.exec
  have hby := Bd.bytes
  have hml : c.maxLocals = 4 := hml0
  have hown : s.vm.findClass "com/example/larch/larch/model/RenewalLimitForPeriodsPinLaw" = some m.cls := findClass_of_methodNamed Bd.named
  have hnm := (name_of_methodNamed Bd.named Bd.method).1
  have X0 : Stand p l e room_1 s m #[(.int p1)] below meth c s₁ [] 0 0 := Stand.of_body Bd
  have e0 : s₁.heap = h0 := by rw [← hh, Bd.state]; rfl
  have N0 := Fr.nil n0
  have pre0 : ∀ t, Steps p.tables e below (s₁.setTop (mkF m 0 #[.val (.int p1), .unset, .unset, .unset] [])) t → Steps p.tables e below (s₁.setTop (entryFrame m #[(.int p1)] maxLocals)) t := fun t k => castTop (ef_0_0 m p1) k
  obtain ⟨_, _, ⟨T1, L1, k1, n1⟩, -, X1, ⟨Lc1, hQ1, l1, y1, z1⟩, st1⟩ := Jvm.LawKit.callS X0 hx (y := (⟨"com/example/larch/larch/model/RenewalLimit", "forPeriods", "(I)Lcom/example/larch/larch/model/RenewalLimit;"⟩ : MethodName)) hown (mvT hZ (wd1 hw)) (mvT hZ (wd2 hw)) (mvT hZ (wd3 hw)) (mvT hZ (wd4 hw)) (by decide) (backOf (W := 0) (rm1_0 l Z a0 hw [] (p1 &&& (2147483647 : Int32)) w_cache wc1 h0 n0 OL0 pr2 pr3 pr4 pr5 pr6 pr7) hZ (wd4 hw) (wd3 hw) (by decide) (by decide)) (g := (mkF m 12 #[.val (.int p1), .val (.int (p1 &&& (2147483647 : Int32))), .unset, .unset] [(.int (p1 &&& (2147483647 : Int32)))])) rfl (by rw [hml]; rfl) (argsL := [(.int (p1 &&& (2147483647 : Int32)))]) (rest := []) (lenOf pd_2 rfl) rfl (by show 2 * 0 + _ ≤ _; exact Nat.le_of_eq rfl) (hb hby at_12) (fun _ _ => ⟨rfl, e0, (by decide : 0 + 1 ≤ _), (by decide : 0 + 2 ≤ _)⟩)
  dsimp only [Pt.U, Pt.locs, Pt.cells, Pt.slots] at X1 l1 y1 z1 st1 hQ1
  subst l1 y1 z1
  obtain ⟨b1_0, rfl, Nq1, K1, u1_0, u1_1, u1_2, u1_3⟩ := hQ1
  have KK1 : Keep h0 T1.heap [] := (Keep.refl h0 []).trans K1 all0
  have OL1 := OL0.keep K1 all0
  have g_b1_0 : n0 ≤ b1_0 := Nat.le_trans (Nat.le_trans (Nat.le_of_eq OL0.1.symm) OL0.2.1) u1_0
  have sz_b1_0 : h0.size ≤ b1_0 := Nat.le_trans (Keep.refl h0 []).1 u1_0
  have N1 := Fr.app N0 Nq1
  obtain ⟨T2, X2, e2, st2⟩ := getS2 X1 hx hZ hown (host := "") (Or.inl (wd24 hw)) Via.refl rfl (pr8.ext OL1.2) (g := (mkF m 21 #[.val (.int p1), .val (.int (p1 &&& (2147483647 : Int32))), .val (.ref b1_0), .unset] [(.ref b1_0)])) rfl (hb hby at_21)
  obtain ⟨cq3, kq3, q3a, q3b, q3c⟩ := isOf hZ e2 u1_1
  obtain ⟨_, _, ⟨T3, L3, k3, n3⟩, -, X3, ⟨Lc3, hQ3, l3, y3, z3⟩, st3⟩ := X2.virtualBack hx (y := (⟨"com/example/larch/larch/model/RenewalLimit", "remainingPeriods", "()Ljava/lang/Integer;"⟩ : MethodName)) (z := (⟨"com/example/larch/larch/model/RenewalLimit", "remainingPeriods", "()Ljava/lang/Integer;"⟩ : MethodName)) hown (mvT hZ (wd26 hw)) (mvT hZ (wd27 hw)) (notFace_of_selects (args := #[]) (mvT hZ (wd29 hw))) (mvT hZ (wd29 hw)) (mvT hZ (wd28 hw)) (by decide) (backOf (W := 0) (rm5_0 l Z a0 hw [] b1_0 wc1 T1.heap n0 OL1 u1_3) hZ (wd30 hw) (wd3 hw) (by decide) (by decide)) q3a q3c (g := (mkF m 30 #[.val (.int p1), .val (.int (p1 &&& (2147483647 : Int32))), .val (.ref b1_0), .unset] [(.ref b1_0)])) rfl (by rw [hml]; rfl) (Steps.refl _) (argsL := []) (rest := []) (lenOf pd_3 rfl) rfl (by show 2 * 0 + _ ≤ _; exact Nat.le_of_eq rfl) (hb hby at_30) (fun _ _ => ⟨rfl, e2, (by decide : 1 + 0 ≤ _), (by decide : 2 + 0 ≤ _)⟩)
  dsimp only [Pt.U, Pt.locs, Pt.cells, Pt.slots] at X3 l3 y3 z3 st3 hQ3
  subst l3 y3 z3
  obtain ⟨rfl, Nq3, ec3⟩ := hQ3
  have N3 := Fr.app N1 Nq3
  obtain ⟨cq4, kq4, q4a, q4b, q4c⟩ := isOf hZ ec3 (pr11.ext OL1.2)
  obtain ⟨_, _, ⟨T4, L4, k4, n4⟩, -, X4, ⟨Lc4, hQ4, l4, y4, z4⟩, st4⟩ := X3.virtualBack hx (y := (⟨"java/lang/Integer", "intValue", "()I"⟩ : MethodName)) (z := (⟨"java/lang/Integer", "intValue", "()I"⟩ : MethodName)) hown (mvT hZ (wd31 hw)) (mvT hZ (wd32 hw)) (notFace_of_selects (args := #[]) (mvT hZ (wd34 hw))) (mvT hZ (wd34 hw)) (mvT hZ (wd33 hw)) (by decide) (backOf (W := 0) (rm6_0 l Z a0 hw [] wc1 (p1 &&& (2147483647 : Int32)) T1.heap n0 OL1 pr10) hZ (wd35 hw) (wd9 hw) (by decide) (by decide)) q4a q4c (g := (mkF m 41 #[.val (.int p1), .val (.int (p1 &&& (2147483647 : Int32))), .val (.ref b1_0), .val (.ref wc1)] [(.ref wc1)])) rfl (by rw [hml]; rfl) (Steps.refl _) (argsL := []) (rest := []) (lenOf pd_4 rfl) rfl (by show 2 * 0 + _ ≤ _; exact Nat.le_of_eq rfl) (hb hby at_41) (fun _ _ => ⟨rfl, ec3, (by decide : 1 + 0 ≤ _), (by decide : 2 + 0 ≤ _)⟩)
  dsimp only [Pt.U, Pt.locs, Pt.cells, Pt.slots] at X4 l4 y4 z4 st4 hQ4
  subst l4 y4 z4
  obtain ⟨rfl, Nq4, ec4⟩ := hQ4
  have N4 := Fr.app N3 Nq4
  obtain ⟨cq5, kq5, q5a, q5b, q5c⟩ := isOf hZ ec4 u1_1
  obtain ⟨_, _, ⟨T5, L5, k5, n5⟩, -, X5, ⟨Lc5, hQ5, l5, y5, z5⟩, st5⟩ := X4.virtualBack hx (y := (⟨"com/example/larch/larch/model/RenewalLimit", "lastChargeDay", "()Ljava/time/LocalDate;"⟩ : MethodName)) (z := (⟨"com/example/larch/larch/model/RenewalLimit", "lastChargeDay", "()Ljava/time/LocalDate;"⟩ : MethodName)) hown (mvT hZ (wd38 hw)) (mvT hZ (wd39 hw)) (notFace_of_selects (args := #[]) (mvT hZ (wd41 hw))) (mvT hZ (wd41 hw)) (mvT hZ (wd40 hw)) (by decide) (backOf (W := 0) (rm7_0 l Z a0 hw [] b1_0 T1.heap n0 OL1 u1_2) hZ (wd42 hw) (wd3 hw) (by decide) (by decide)) q5a q5c (g := (mkF m 51 #[.val (.int p1), .val (.int (p1 &&& (2147483647 : Int32))), .val (.ref b1_0), .val (.ref wc1)] [(.ref b1_0)])) rfl (by rw [hml]; rfl) (Steps.refl _) (argsL := []) (rest := []) (lenOf pd_5 rfl) rfl (by show 2 * 0 + _ ≤ _; exact Nat.le_of_eq rfl) (hb hby at_51) (fun _ _ => ⟨rfl, ec4, (by decide : 1 + 0 ≤ _), (by decide : 2 + 0 ≤ _)⟩)
  dsimp only [Pt.U, Pt.locs, Pt.cells, Pt.slots] at X5 l5 y5 z5 st5 hQ5
  subst l5 y5 z5
  obtain ⟨rfl, Nq5, ec5⟩ := hQ5
  have N5 := Fr.app N4 Nq5
  obtain ⟨fs, hr, hrun, hended, hW, hsame⟩ := X5.leave (v := some (.int (1 : Int32))) (fun h => by rw [Bd.returns] at h; cases h)
  refine ⟨_, _, pre0 _ ?_, hrun, hended, _, _, rfl, ?_, ⟨_, rfl⟩, hW, hsame.mono (by decide) (by decide)⟩
  · show Steps p.tables e below (s₁.setTop (mkF m 0 #[.val (.int p1), .unset, .unset, .unset] [])) _
    refine XS.iloadN X0.here hx rfl (hb hby at_0) rfl ?_
    show Steps p.tables e below (s₁.setTop (mkF m 1 #[.val (.int p1), .unset, .unset, .unset] [(.int p1)])) _
    refine X0.ldcInt hx hown (mvT hZ (wd0 hw)) (g := (mkF m 1 #[.val (.int p1), .unset, .unset, .unset] [(.int p1)])) rfl (hb hby at_1) _ ?_
    show Steps p.tables e below (s₁.setTop (mkF m 3 #[.val (.int p1), .unset, .unset, .unset] [(.int (2147483647 : Int32)), (.int p1)])) _
    refine XS.iand X0.here hx rfl (hb hby at_3) rfl ?_
    show Steps p.tables e below (s₁.setTop (mkF m 4 #[.val (.int p1), .unset, .unset, .unset] [(.int (p1 &&& (2147483647 : Int32)))])) _
    refine XS.istoreN X0.here hx rfl (hb hby at_4) rfl (l' := #[.val (.int p1), .val (.int (p1 &&& (2147483647 : Int32))), .unset, .unset]) rfl ?_
    show Steps p.tables e below (s₁.setTop (mkF m 5 #[.val (.int p1), .val (.int (p1 &&& (2147483647 : Int32))), .unset, .unset] [])) _
    refine XS.iloadN X0.here hx rfl (hb hby at_5) rfl ?_
    show Steps p.tables e below (s₁.setTop (mkF m 6 #[.val (.int p1), .val (.int (p1 &&& (2147483647 : Int32))), .unset, .unset] [(.int (p1 &&& (2147483647 : Int32)))])) _
    refine XS.ifYes X0.here hx rfl (pc0 := 6) (pc' := 11) rfl (hb hby at_6) rfl ((if0 _ _).trans (feq pr1).2) (by decide) (by decide) ?_
    show Steps p.tables e below (s₁.setTop (mkF m 11 #[.val (.int p1), .val (.int (p1 &&& (2147483647 : Int32))), .unset, .unset] [])) _
    refine XS.iloadN X0.here hx rfl (hb hby at_11) rfl ?_
    show Steps p.tables e below (s₁.setTop (mkF m 12 #[.val (.int p1), .val (.int (p1 &&& (2147483647 : Int32))), .unset, .unset] [(.int (p1 &&& (2147483647 : Int32)))])) _
    refine st1 _ ?_
    show Steps p.tables e below (T1.setTop (mkF m 15 #[.val (.int p1), .val (.int (p1 &&& (2147483647 : Int32))), .unset, .unset] [(.ref b1_0)])) _
    refine XS.astoreN X1.here hx rfl (hb hby at_15) rfl rfl (l' := #[.val (.int p1), .val (.int (p1 &&& (2147483647 : Int32))), .val (.ref b1_0), .unset]) rfl ?_
    show Steps p.tables e below (T1.setTop (mkF m 16 #[.val (.int p1), .val (.int (p1 &&& (2147483647 : Int32))), .val (.ref b1_0), .unset] [])) _
    refine XS.aloadN X1.here hx rfl (hb hby at_16) rfl rfl ?_
    show Steps p.tables e below (T1.setTop (mkF m 17 #[.val (.int p1), .val (.int (p1 &&& (2147483647 : Int32))), .val (.ref b1_0), .unset] [(.ref b1_0)])) _
    refine XS.ifnullNo X1.here hx rfl (hb hby at_17) rfl ?_
    show Steps p.tables e below (T1.setTop (mkF m 20 #[.val (.int p1), .val (.int (p1 &&& (2147483647 : Int32))), .val (.ref b1_0), .unset] [])) _
    refine XS.aloadN X1.here hx rfl (hb hby at_20) rfl rfl ?_
    show Steps p.tables e below (T1.setTop (mkF m 21 #[.val (.int p1), .val (.int (p1 &&& (2147483647 : Int32))), .val (.ref b1_0), .unset] [(.ref b1_0)])) _
    refine st2 _ ?_
    show Steps p.tables e below (T2.setTop (mkF m 24 #[.val (.int p1), .val (.int (p1 &&& (2147483647 : Int32))), .val (.ref b1_0), .unset] [(.ref w_NONE), (.ref b1_0)])) _
    refine Jvm.RoadKit.acmp (g := (mkF m 24 #[.val (.int p1), .val (.int (p1 &&& (2147483647 : Int32))), .val (.ref b1_0), .unset] [(.ref w_NONE), (.ref b1_0)])) X2 hx rfl rfl rfl (pc0 := 24) (pc' := 29) (same := false) rfl (hb hby at_24) rfl (decide_eq_false fun q => (Ne.symm (OL0.ne pr9.lt g_b1_0)) (Value.ref.inj q)) (by decide) (by decide) ?_
    show Steps p.tables e below (T2.setTop (mkF m 29 #[.val (.int p1), .val (.int (p1 &&& (2147483647 : Int32))), .val (.ref b1_0), .unset] [])) _
    refine XS.aloadN X2.here hx rfl (hb hby at_29) rfl rfl ?_
    show Steps p.tables e below (T2.setTop (mkF m 30 #[.val (.int p1), .val (.int (p1 &&& (2147483647 : Int32))), .val (.ref b1_0), .unset] [(.ref b1_0)])) _
    refine st3.trans ?_
    show Steps p.tables e below (T3.setTop (mkF m 33 #[.val (.int p1), .val (.int (p1 &&& (2147483647 : Int32))), .val (.ref b1_0), .unset] [(.ref wc1)])) _
    refine XS.astoreN X3.here hx rfl (hb hby at_33) rfl rfl (l' := #[.val (.int p1), .val (.int (p1 &&& (2147483647 : Int32))), .val (.ref b1_0), .val (.ref wc1)]) rfl ?_
    show Steps p.tables e below (T3.setTop (mkF m 34 #[.val (.int p1), .val (.int (p1 &&& (2147483647 : Int32))), .val (.ref b1_0), .val (.ref wc1)] [])) _
    refine XS.aloadN X3.here hx rfl (hb hby at_34) rfl rfl ?_
    show Steps p.tables e below (T3.setTop (mkF m 35 #[.val (.int p1), .val (.int (p1 &&& (2147483647 : Int32))), .val (.ref b1_0), .val (.ref wc1)] [(.ref wc1)])) _
    refine XS.ifnonnullYes X3.here hx rfl (pc0 := 35) (pc' := 40) rfl (hb hby at_35) rfl (by decide) (by decide) ?_
    show Steps p.tables e below (T3.setTop (mkF m 40 #[.val (.int p1), .val (.int (p1 &&& (2147483647 : Int32))), .val (.ref b1_0), .val (.ref wc1)] [])) _
    refine XS.aloadN X3.here hx rfl (hb hby at_40) rfl rfl ?_
    show Steps p.tables e below (T3.setTop (mkF m 41 #[.val (.int p1), .val (.int (p1 &&& (2147483647 : Int32))), .val (.ref b1_0), .val (.ref wc1)] [(.ref wc1)])) _
    refine st4.trans ?_
    show Steps p.tables e below (T4.setTop (mkF m 44 #[.val (.int p1), .val (.int (p1 &&& (2147483647 : Int32))), .val (.ref b1_0), .val (.ref wc1)] [(.int (p1 &&& (2147483647 : Int32)))])) _
    refine XS.iloadN X4.here hx rfl (hb hby at_44) rfl ?_
    show Steps p.tables e below (T4.setTop (mkF m 45 #[.val (.int p1), .val (.int (p1 &&& (2147483647 : Int32))), .val (.ref b1_0), .val (.ref wc1)] [(.int (p1 &&& (2147483647 : Int32))), (.int (p1 &&& (2147483647 : Int32)))])) _
    refine XS.icmpYes X4.here hx rfl (pc0 := 45) (pc' := 50) rfl (hb hby at_45) rfl (teq (rfl : (p1 &&& (2147483647 : Int32)) = (p1 &&& (2147483647 : Int32)))).1 (by decide) (by decide) ?_
    show Steps p.tables e below (T4.setTop (mkF m 50 #[.val (.int p1), .val (.int (p1 &&& (2147483647 : Int32))), .val (.ref b1_0), .val (.ref wc1)] [])) _
    refine XS.aloadN X4.here hx rfl (hb hby at_50) rfl rfl ?_
    show Steps p.tables e below (T4.setTop (mkF m 51 #[.val (.int p1), .val (.int (p1 &&& (2147483647 : Int32))), .val (.ref b1_0), .val (.ref wc1)] [(.ref b1_0)])) _
    refine st5.trans ?_
    show Steps p.tables e below (T5.setTop (mkF m 54 #[.val (.int p1), .val (.int (p1 &&& (2147483647 : Int32))), .val (.ref b1_0), .val (.ref wc1)] [.null])) _
    refine XS.ifnonnullNo X5.here hx rfl (hb hby at_54) rfl ?_
    show Steps p.tables e below (T5.setTop (mkF m 57 #[.val (.int p1), .val (.int (p1 &&& (2147483647 : Int32))), .val (.ref b1_0), .val (.ref wc1)] [])) _
    refine XS.iconst X5.here hx rfl (hb hby at_57) ?_
    show Steps p.tables e below (T5.setTop (mkF m 58 #[.val (.int p1), .val (.int (p1 &&& (2147483647 : Int32))), .val (.ref b1_0), .val (.ref wc1)] [(.int (1 : Int32))])) _
    refine XS.goto X5.here hx rfl (pc0 := 58) (pc' := 62) rfl (hb hby at_58) (by decide) (by decide) ?_
    show Steps p.tables e below (T5.setTop (mkF m 62 #[.val (.int p1), .val (.int (p1 &&& (2147483647 : Int32))), .val (.ref b1_0), .val (.ref wc1)] [(.int (1 : Int32))])) _
    exact retN X5 hx (t := .boolean) Bd.returns (by simp) (hb hby at_62) hr
  · exact ⟨rfl, N5⟩
theorem d2_23 : decode jdk_33_method_22_code 23 = .ok (.new 1, 3) := by decide +kernel
theorem d2_26 : decode jdk_33_method_22_code 26 = .ok (.dup, 1) := by decide +kernel
theorem d2_27 : decode jdk_33_method_22_code 27 = .ok (.iload_n 0, 1) := by decide +kernel
theorem d2_28 : decode jdk_33_method_22_code 28 = .ok (.invokespecial 199, 3) := by decide +kernel
theorem d8_0 : decode jdk_33_method_23_code 0 = .ok (.aload_n 0, 1) := by decide +kernel
theorem d8_1 : decode jdk_33_method_23_code 1 = .ok (.invokespecial 202, 3) := by decide +kernel
theorem d9_0 : decode jdk_18_method_1_code 0 = .ok (.aload_n 0, 1) := by decide +kernel
theorem d9_1 : decode jdk_18_method_1_code 1 = .ok (.invokespecial 1, 3) := by decide +kernel
theorem d9_4 : decode jdk_18_method_1_code 4 = .ok (.return_, 1) := by decide +kernel
theorem ef_9_7 (m : MethodId) (x0 : Addr) : entryFrame m #[(.ref x0)] 1 = mkF m 0 #[.val (.ref x0)] [] := by first | (simp [entryFrame, mkF, argsToLocals, Value.category]; done) | rfl
theorem pn_3 : plainName "java/lang/Number" = true := by first | (simp [plainName, overriddenIn]; done) | decide +kernel
def Q_rm9_0 (Z : State) (a1 : Addr) (h0 : Heap) (n0 : Nat) (v : Option Value) (h : Heap) (L : List Loc) : Prop := v = none ∧ Fr n0 L ∧ h = h0
set_option maxRecDepth 65536 in
set_option maxHeartbeats 40000000 in
theorem rm9_0 (l : Launch) (Z : State) (a0 : Array Value) (hw : ∀ d ∈ tables_1, d.before a0 Z = true) (ws : List Jvm.Cond) (a1 : Addr) (h0 : Heap) (n0 : Nat) (OL0 : Old Z n0 h0)  :
    MetFree l (⟨"java/lang/Number", "<init>", "()V"⟩ : MethodName) (head1 (Jvm.Cond.code (⟨"java/lang/Number", "<init>", "()V"⟩ : MethodName) jdk_18_method_1_code 1 none :: ws) ({ frames := 1, cells := 0, slots := 0, locals := 12 } : Room)) (fun a U => a = #[(.ref a1)] ∧ Z.Warmed39 U.vm ∧ U.heap = h0) (fun _ _ _ _ _ => True) (fun _ U o U' => ∃ v L, o = .returned v ∧ Q_rm9_0 Z a1 h0 n0 v U'.heap L ∧ FrameEnd U o U' L ({ frames := 1, cells := 0, slots := 0, locals := 12 } : Room).cells ({ frames := 1, cells := 0, slots := 0, locals := 12 } : Room).slots) := by
  refine MetFree.of_bodySF (plainFor_of_name pn_3) hisR ?_
  intro p e s m args below meth c s₁ Bd hml0 hP hK
  obtain ⟨rfl, hZ, hh⟩ := hP
  have hx := Bd.exec
  have hby := Bd.bytes
  have hml : c.maxLocals = 1 := hml0
  have hown : s.vm.findClass "java/lang/Number" = some m.cls := findClass_of_methodNamed Bd.named
  have hnm := (name_of_methodNamed Bd.named Bd.method).1
  have X0 : Stand p l e ({ frames := 1, cells := 0, slots := 0, locals := 12 } : Room) s m #[(.ref a1)] below meth c s₁ [] 0 0 := Stand.of_body Bd
  have e0 : s₁.heap = h0 := by rw [← hh, Bd.state]; rfl
  have N0 := Fr.nil n0
  have pre0 : ∀ t, Steps p.tables e below (s₁.setTop (mkF m 0 #[.val (.ref a1)] [])) t → Steps p.tables e below (s₁.setTop (entryFrame m #[(.ref a1)] 1)) t := fun t k => castTop (ef_9_7 m a1) k
  obtain ⟨T2, X2, e2, st2⟩ := initO X0 hx hZ hown (wd55 hw) (wd18 hw) (wd19 hw) e0 (g := (mkF m 1 #[.val (.ref a1)] [(.ref a1)])) rfl (by rw [hml]; rfl) rfl (hb hby d9_1) (by decide) (W := 0) (by show 2 * 0 + _ ≤ _; exact Nat.le_of_eq rfl) (by decide)
  obtain ⟨fs, hr, hrun, hended, hW, hsame⟩ := X2.leave (v := none) (fun _ => rfl)
  refine ⟨_, _, pre0 _ ?_, hrun, hended, _, _, rfl, ?_, ⟨_, rfl⟩, hW, hsame.mono (by decide) (by decide)⟩
  · show Steps p.tables e below (s₁.setTop (mkF m 0 #[.val (.ref a1)] [])) _
    refine XS.aloadN X0.here hx rfl (hb hby d9_0) rfl rfl ?_
    show Steps p.tables e below (s₁.setTop (mkF m 1 #[.val (.ref a1)] [(.ref a1)])) _
    refine st2 _ ?_
    show Steps p.tables e below (T2.setTop (mkF m 4 #[.val (.ref a1)] [])) _
    exact X2.returnOut hx Bd.returns (hb hby d9_4) hr
  · show Q_rm9_0 Z a1 h0 n0 _ T2.heap _
    rw [e2]
    exact ⟨rfl, N0, rfl⟩
theorem pd_6 : parseMethodDescriptor "()V" = some ⟨[], none⟩ := by decide +kernel
theorem d8_4 : decode jdk_33_method_23_code 4 = .ok (.aload_n 0, 1) := by decide +kernel
theorem d8_5 : decode jdk_33_method_23_code 5 = .ok (.iload_n 1, 1) := by decide +kernel
theorem d8_6 : decode jdk_33_method_23_code 6 = .ok (.putfield 205, 3) := by decide +kernel
theorem d8_9 : decode jdk_33_method_23_code 9 = .ok (.return_, 1) := by decide +kernel
theorem ef_8_8 (m : MethodId) (x0 : Addr) (x1 : Int32) : entryFrame m #[(.ref x0), (.int x1)] 2 = mkF m 0 #[.val (.ref x0), .val (.int x1)] [] := by first | (simp [entryFrame, mkF, argsToLocals, Value.category]; done) | rfl
def Q_rm8_0 (Z : State) (a1 : Addr) (p2 : Int32) (h0 : Heap) (n0 : Nat) (v : Option Value) (h : Heap) (L : List Loc) : Prop := v = none ∧ Fr n0 L ∧ Keep h0 h [a1] ∧ Fld Z h a1 "java/lang/Integer" "value" "I" (.int p2)
set_option maxRecDepth 65536 in
set_option maxHeartbeats 40000000 in
theorem rm8_0 (l : Launch) (Z : State) (a0 : Array Value) (hw : ∀ d ∈ tables_1, d.before a0 Z = true) (ws : List Jvm.Cond) (a1 : Addr) (p2 : Int32) (h0 : Heap) (n0 : Nat) (OL0 : Old Z n0 h0) (pr1 : Exa Z h0 a1 "java/lang/Integer") (pr2 : Fld Z h0 a1 "java/lang/Integer" "value" "I" (.int (0 : Int32))) (pr3 : n0 ≤ a1) :
    MetFree l (⟨"java/lang/Integer", "<init>", "(I)V"⟩ : MethodName) (head1 (Jvm.Cond.code (⟨"java/lang/Integer", "<init>", "(I)V"⟩ : MethodName) jdk_33_method_23_code 2 none :: ws) ({ frames := 2, cells := 0, slots := 0, locals := 24 } : Room)) (fun a U => a = #[(.ref a1), (.int p2)] ∧ Z.Warmed39 U.vm ∧ U.heap = h0) (fun _ _ _ _ _ => True) (fun _ U o U' => ∃ v L, o = .returned v ∧ Q_rm8_0 Z a1 p2 h0 n0 v U'.heap L ∧ FrameEnd U o U' L ({ frames := 2, cells := 0, slots := 0, locals := 24 } : Room).cells ({ frames := 2, cells := 0, slots := 0, locals := 24 } : Room).slots) := by
  refine MetFree.of_bodySF (plainFor_of_name pn_1) hisR ?_
  intro p e s m args below meth c s₁ Bd hml0 hP hK
  obtain ⟨rfl, hZ, hh⟩ := hP
  have hx := Bd.exec
  have hby := Bd.bytes
  have hml : c.maxLocals = 2 := hml0
  have hown : s.vm.findClass "java/lang/Integer" = some m.cls := findClass_of_methodNamed Bd.named
  have hnm := (name_of_methodNamed Bd.named Bd.method).1
  have X0 : Stand p l e ({ frames := 2, cells := 0, slots := 0, locals := 24 } : Room) s m #[(.ref a1), (.int p2)] below meth c s₁ [] 0 0 := Stand.of_body Bd
  have e0 : s₁.heap = h0 := by rw [← hh, Bd.state]; rfl
  have N0 := Fr.nil n0
  have pre0 : ∀ t, Steps p.tables e below (s₁.setTop (mkF m 0 #[.val (.ref a1), .val (.int p2)] [])) t → Steps p.tables e below (s₁.setTop (entryFrame m #[(.ref a1), (.int p2)] 2)) t := fun t k => castTop (ef_8_8 m a1 p2) k
  obtain ⟨_, _, ⟨T3, L3, k3, n3⟩, -, X3, ⟨Lc3, hQ3, l3, y3, z3⟩, st3⟩ := X0.specialBack hx (y := (⟨"java/lang/Number", "<init>", "()V"⟩ : MethodName)) rfl hown (mvT hZ (wd49 hw)) (mvT hZ (wd50 hw)) (mvT hZ (wd54 hw)) (by decide) (backOf (W := 0) (rm9_0 l Z a0 hw [] a1 h0 n0 OL0 ) hZ (wd54 hw) (wd53 hw) (by decide) (by decide)) (g := (mkF m 1 #[.val (.ref a1), .val (.int p2)] [(.ref a1)])) rfl (by rw [hml]; rfl) (Steps.refl _) (a := a1) (argsL := []) (rest := []) (lenOf pd_6 rfl) rfl (by show 2 * 0 + _ ≤ _; exact Nat.le_of_eq rfl) (hb hby d8_1) (fun _ _ => ⟨rfl, e0, (by decide : 0 + 0 ≤ _), (by decide : 0 + 0 ≤ _)⟩)
  dsimp only [Pt.U, Pt.locs, Pt.cells, Pt.slots] at X3 l3 y3 z3 st3 hQ3
  subst l3 y3 z3
  obtain ⟨rfl, Nq3, ec3⟩ := hQ3
  have N3 := Fr.app N0 Nq3
  obtain ⟨T4, h4, X4, e4, W4, st4⟩ := putF X3 hx hZ hown (host := "") (Or.inl (wd36 hw)) Via.refl ec3 pr2 pr1 (Or.inr ⟨(wd37 hw), rfl, hnm⟩) (wd44 hw) (ty := .int) (by decide) rfl rfl (g := (mkF m 6 #[.val (.ref a1), .val (.int p2)] [(.int p2), (.ref a1)])) rfl rfl (hb hby d8_6)
  have Fw4 := pr2.same W4
  have KK4 : Keep h0 h4 [a1] := (Keep.refl h0 [a1]).wr W4 (Or.inl (List.mem_of_getElem? (i := 0) rfl))
  have OL4 := OL0.wr W4 pr3
  have N4 := Fr.snoc X4 N3 pr3
  obtain ⟨fs, hr, hrun, hended, hW, hsame⟩ := X4.leave (v := none) (fun _ => rfl)
  refine ⟨_, _, pre0 _ ?_, hrun, hended, _, _, rfl, ?_, ⟨_, rfl⟩, hW, hsame.mono (by decide) (by decide)⟩
  · show Steps p.tables e below (s₁.setTop (mkF m 0 #[.val (.ref a1), .val (.int p2)] [])) _
    refine XS.aloadN X0.here hx rfl (hb hby d8_0) rfl rfl ?_
    show Steps p.tables e below (s₁.setTop (mkF m 1 #[.val (.ref a1), .val (.int p2)] [(.ref a1)])) _
    refine st3.trans ?_
    show Steps p.tables e below (T3.setTop (mkF m 4 #[.val (.ref a1), .val (.int p2)] [])) _
    refine XS.aloadN X3.here hx rfl (hb hby d8_4) rfl rfl ?_
    show Steps p.tables e below (T3.setTop (mkF m 5 #[.val (.ref a1), .val (.int p2)] [(.ref a1)])) _
    refine XS.iloadN X3.here hx rfl (hb hby d8_5) rfl ?_
    show Steps p.tables e below (T3.setTop (mkF m 6 #[.val (.ref a1), .val (.int p2)] [(.int p2), (.ref a1)])) _
    refine st4 _ ?_
    show Steps p.tables e below (T4.setTop (mkF m 9 #[.val (.ref a1), .val (.int p2)] [])) _
    exact X4.returnOut hx Bd.returns (hb hby d8_9) hr
  · show Q_rm8_0 Z a1 p2 h0 n0 _ T4.heap _
    rw [e4]
    exact ⟨rfl, N4, KK4, Fw4⟩
theorem pd_7 : parseMethodDescriptor "(I)V" = some ⟨[.int], none⟩ := by decide +kernel
theorem d2_31 : decode jdk_33_method_22_code 31 = .ok (.areturn, 1) := by decide +kernel
def Q_rm2_1 (Z : State) (p1 : Int32) (h0 : Heap) (n0 : Nat) (v : Option Value) (h : Heap) (L : List Loc) : Prop := ∃ b3 : Addr, v = some (.ref b3) ∧ Fr n0 L ∧ Keep h0 h [] ∧ h0.size ≤ b3 ∧ Exa Z h b3 "java/lang/Integer" ∧ Fld Z h b3 "java/lang/Integer" "value" "I" (.int p1)
set_option maxRecDepth 65536 in
set_option maxHeartbeats 40000000 in
theorem rm2_1 (l : Launch) (Z : State) (a0 : Array Value) (hw : ∀ d ∈ tables_1, d.before a0 Z = true) (ws : List Jvm.Cond) (p1 : Int32) (h0 : Heap) (n0 : Nat) (OL0 : Old Z n0 h0) (pr1 : ¬ (p1 < (-128 : Int32))) (pr2 : Sta Z Z.heap "java/lang/Integer$IntegerCache" "high" "I" (.int (127 : Int32))) (pr3 : (127 : Int32) < p1) :
    MetFree l (⟨"java/lang/Integer", "valueOf", "(I)Ljava/lang/Integer;"⟩ : MethodName) (head1 (Jvm.Cond.code (⟨"java/lang/Integer", "valueOf", "(I)Ljava/lang/Integer;"⟩ : MethodName) jdk_33_method_22_code 1 (some (.object "java/lang/Integer")) :: ws) ({ frames := 3, cells := 1, slots := 1, locals := 38 } : Room)) (fun a U => a = #[(.int p1)] ∧ Z.Warmed39 U.vm ∧ U.heap = h0) (fun _ _ _ _ _ => True) (fun _ U o U' => ∃ v L, o = .returned v ∧ Q_rm2_1 Z p1 h0 n0 v U'.heap L ∧ FrameEnd U o U' L ({ frames := 3, cells := 1, slots := 1, locals := 38 } : Room).cells ({ frames := 3, cells := 1, slots := 1, locals := 38 } : Room).slots) := by
  refine MetFree.of_bodySF (plainFor_of_name pn_1) hisR ?_
  intro p e s m args below meth c s₁ Bd hml0 hP hK
  obtain ⟨rfl, hZ, hh⟩ := hP
  have hx := Bd.exec
  have hby := Bd.bytes
  have hml : c.maxLocals = 1 := hml0
  have hown : s.vm.findClass "java/lang/Integer" = some m.cls := findClass_of_methodNamed Bd.named
  have hnm := (name_of_methodNamed Bd.named Bd.method).1
  have X0 : Stand p l e ({ frames := 3, cells := 1, slots := 1, locals := 38 } : Room) s m #[(.int p1)] below meth c s₁ [] 0 0 := Stand.of_body Bd
  have e0 : s₁.heap = h0 := by rw [← hh, Bd.state]; rfl
  have N0 := Fr.nil n0
  have pre0 : ∀ t, Steps p.tables e below (s₁.setTop (mkF m 0 #[.val (.int p1)] [])) t → Steps p.tables e below (s₁.setTop (entryFrame m #[(.int p1)] 1)) t := fun t k => castTop (ef_2_1 m p1) k
  obtain ⟨T2, X2, e2, st2⟩ := getS2 X0 hx hZ hown (host := "") (Or.inl (wd11 hw)) Via.refl e0 (pr2.ext OL0.2) (g := (mkF m 7 #[.val (.int p1)] [(.int p1)])) rfl (hb hby d2_7)
  obtain ⟨T3, h3, X3, e3, E3, A3, D3, -, st3⟩ := newO X2 hx hZ hown (wd43 hw) (wd44 hw) (wd9 hw) e2 (g := (mkF m 23 #[.val (.int p1)] [])) rfl (hb hby d2_23) (by decide) (by decide)
  obtain ⟨b3, g3⟩ : ∃ z, z = h0.size := ⟨_, rfl⟩
  rw [← g3] at A3 D3 st3
  have g_b3 : n0 ≤ b3 := (Nat.le_trans (Nat.le_trans (Nat.le_of_eq OL0.1.symm) OL0.2.1) (Nat.le_of_eq g3.symm))
  have sz_b3 : h0.size ≤ b3 := (Nat.le_trans (Keep.refl h0 []).1 (Nat.le_of_eq g3.symm))
  have KK3 : Keep h0 h3 [] := (Keep.refl h0 []).ext E3
  have OL3 := OL0.ext E3
  have F_value_b3 : Fld Z h3 b3 "java/lang/Integer" "value" "I" (.int (0 : Int32)) := D3 (Or.inr (wd37 hw)) (ty := .int) (by decide)
  obtain ⟨_, _, ⟨T4, L4, k4, n4⟩, -, X4, ⟨Lc4, hQ4, l4, y4, z4⟩, st4⟩ := X3.specialBack hx (y := (⟨"java/lang/Integer", "<init>", "(I)V"⟩ : MethodName)) rfl hown (mvT hZ (wd45 hw)) (mvT hZ (wd46 hw)) (mvT hZ (wd48 hw)) (by decide) (backOf (W := 1) (rm8_0 l Z a0 hw [] b3 p1 h3 n0 OL3 A3 F_value_b3 g_b3) hZ (wd48 hw) (wd9 hw) (by decide) (by decide)) (g := (mkF m 28 #[.val (.int p1)] [(.int p1), (.ref b3), (.ref b3)])) rfl (by rw [hml]; rfl) (Steps.refl _) (a := b3) (argsL := [(.int p1)]) (rest := [(.ref b3)]) (lenOf pd_7 rfl) rfl (by show 2 * 0 + _ ≤ _; exact Nat.le_of_eq rfl) (hb hby d2_28) (fun _ _ => ⟨rfl, e3, (by decide : 1 + 0 ≤ _), (by decide : 1 + 0 ≤ _)⟩)
  dsimp only [Pt.U, Pt.locs, Pt.cells, Pt.slots] at X4 l4 y4 z4 st4 hQ4
  subst l4 y4 z4
  obtain ⟨rfl, Nq4, K4, u4_0⟩ := hQ4
  have KK4 : Keep h0 T4.heap [] := KK3.trans K4 (allS (Or.inr sz_b3) all0)
  have OL4 := OL3.keep K4 (allS g_b3 all0)
  have N4 := Fr.app N0 Nq4
  have fc5 := (A3.keep K4)
  obtain ⟨fs, hr, hrun, hended, hW, hsame⟩ := X4.leave (v := some (.ref b3)) (fun h => by rw [Bd.returns] at h; cases h)
  refine ⟨_, _, pre0 _ ?_, hrun, hended, _, _, rfl, ?_, ⟨_, rfl⟩, hW, hsame.mono (by decide) (by decide)⟩
  · show Steps p.tables e below (s₁.setTop (mkF m 0 #[.val (.int p1)] [])) _
    refine XS.iloadN X0.here hx rfl (hb hby d2_0) rfl ?_
    show Steps p.tables e below (s₁.setTop (mkF m 1 #[.val (.int p1)] [(.int p1)])) _
    refine XS.bipush X0.here hx rfl (hb hby d2_1) ?_
    show Steps p.tables e below (s₁.setTop (mkF m 3 #[.val (.int p1)] [(.int (-128 : Int32)), (.int p1)])) _
    refine XS.icmpNo X0.here hx rfl (hb hby d2_3) rfl (flt pr1).1 ?_
    show Steps p.tables e below (s₁.setTop (mkF m 6 #[.val (.int p1)] [])) _
    refine XS.iloadN X0.here hx rfl (hb hby d2_6) rfl ?_
    show Steps p.tables e below (s₁.setTop (mkF m 7 #[.val (.int p1)] [(.int p1)])) _
    refine st2 _ ?_
    show Steps p.tables e below (T2.setTop (mkF m 10 #[.val (.int p1)] [(.int (127 : Int32)), (.int p1)])) _
    refine XS.icmpYes X2.here hx rfl (pc0 := 10) (pc' := 23) rfl (hb hby d2_10) rfl (tlt pr3).2.2.1 (by decide) (by decide) ?_
    show Steps p.tables e below (T2.setTop (mkF m 23 #[.val (.int p1)] [])) _
    refine st3 _ ?_
    show Steps p.tables e below (T3.setTop (mkF m 26 #[.val (.int p1)] [(.ref b3)])) _
    refine XS.dup X3.here hx rfl (hb hby d2_26) rfl rfl ?_
    show Steps p.tables e below (T3.setTop (mkF m 27 #[.val (.int p1)] [(.ref b3), (.ref b3)])) _
    refine XS.iloadN X3.here hx rfl (hb hby d2_27) rfl ?_
    show Steps p.tables e below (T3.setTop (mkF m 28 #[.val (.int p1)] [(.int p1), (.ref b3), (.ref b3)])) _
    refine st4.trans ?_
    show Steps p.tables e below (T4.setTop (mkF m 31 #[.val (.int p1)] [(.ref b3)])) _
    jvm_step X4.here [X4.here.top, hx, (hb hby d2_31), X4.method', Bd.returns, Value.isRef, FieldType.isReference]
    first | (intro acts; rw [hr _ acts rfl rfl rfl]) | rw [hr _ _ rfl rfl rfl]
    exact Steps.refl _
  · show Q_rm2_1 Z p1 h0 n0 _ T4.heap _
    exact ⟨b3, rfl, N4, KK4, sz_b3, fc5, u4_0⟩
def Q_rm3_1 (Z : State) (a1 : Addr) (a2 : Addr) (h0 : Heap) (n0 : Nat) (v : Option Value) (h : Heap) (L : List Loc) : Prop := v = none ∧ Fr n0 L ∧ Keep h0 h [a1] ∧ Fld Z h a1 "com/example/larch/larch/model/RenewalLimit" "lastChargeDay" "Ljava/time/LocalDate;" .null ∧ Fld Z h a1 "com/example/larch/larch/model/RenewalLimit" "remainingPeriods" "Ljava/lang/Integer;" (.ref a2)
set_option maxRecDepth 65536 in
set_option maxHeartbeats 40000000 in
theorem rm3_1 (l : Launch) (Z : State) (a0 : Array Value) (hw : ∀ d ∈ tables_1, d.before a0 Z = true) (ws : List Jvm.Cond) (a1 : Addr) (a2 : Addr) (h0 : Heap) (n0 : Nat) (OL0 : Old Z n0 h0) (pr1 : Exa Z h0 a1 "com/example/larch/larch/model/RenewalLimit") (pr2 : Fld Z h0 a1 "com/example/larch/larch/model/RenewalLimit" "lastChargeDay" "Ljava/time/LocalDate;" .null) (pr3 : n0 ≤ a1) (pr4 : Fld Z h0 a1 "com/example/larch/larch/model/RenewalLimit" "remainingPeriods" "Ljava/lang/Integer;" .null) :
    MetFree l (⟨"com/example/larch/larch/model/RenewalLimit", "<init>", "(Ljava/time/LocalDate;Ljava/lang/Integer;)V"⟩ : MethodName) (head1 (Jvm.Cond.code (⟨"com/example/larch/larch/model/RenewalLimit", "<init>", "(Ljava/time/LocalDate;Ljava/lang/Integer;)V"⟩ : MethodName) prog_18_method_1_code 3 none :: ws) ({ frames := 1, cells := 0, slots := 0, locals := 12 } : Room)) (fun a U => a = #[(.ref a1), .null, (.ref a2)] ∧ Z.Warmed39 U.vm ∧ U.heap = h0) (fun _ _ _ _ _ => True) (fun _ U o U' => ∃ v L, o = .returned v ∧ Q_rm3_1 Z a1 a2 h0 n0 v U'.heap L ∧ FrameEnd U o U' L ({ frames := 1, cells := 0, slots := 0, locals := 12 } : Room).cells ({ frames := 1, cells := 0, slots := 0, locals := 12 } : Room).slots) := by
  refine MetFree.of_bodySF (plainFor_of_name pn_2) hisR ?_
  intro p e s m args below meth c s₁ Bd hml0 hP hK
  obtain ⟨rfl, hZ, hh⟩ := hP
  have hx := Bd.exec
  have hby := Bd.bytes
  have hml : c.maxLocals = 3 := hml0
  have hown : s.vm.findClass "com/example/larch/larch/model/RenewalLimit" = some m.cls := findClass_of_methodNamed Bd.named
  have hnm := (name_of_methodNamed Bd.named Bd.method).1
  have X0 : Stand p l e ({ frames := 1, cells := 0, slots := 0, locals := 12 } : Room) s m #[(.ref a1), .null, (.ref a2)] below meth c s₁ [] 0 0 := Stand.of_body Bd
  have e0 : s₁.heap = h0 := by rw [← hh, Bd.state]; rfl
  have N0 := Fr.nil n0
  have pre0 : ∀ t, Steps p.tables e below (s₁.setTop (mkF m 0 #[.val (.ref a1), .val .null, .val (.ref a2)] [])) t → Steps p.tables e below (s₁.setTop (entryFrame m #[(.ref a1), .null, (.ref a2)] 3)) t := fun t k => castTop (ef_3_2 m a1 a2) k
  obtain ⟨T3, X3, e3, st3⟩ := initO X0 hx hZ hown (wd17 hw) (wd18 hw) (wd19 hw) e0 (g := (mkF m 1 #[.val (.ref a1), .val .null, .val (.ref a2)] [(.ref a1)])) rfl (by rw [hml]; rfl) rfl (hb hby d3_1) (by decide) (W := 0) (by show 2 * 0 + _ ≤ _; exact Nat.le_of_eq rfl) (by decide)
  obtain ⟨T4, h4, X4, e4, W4, st4⟩ := putF X3 hx hZ hown (host := "") (Or.inl (wd20 hw)) Via.refl e3 pr2 pr1 (Or.inr ⟨(wd21 hw), rfl, hnm⟩) (wd6 hw) (ty := (.object "java/time/LocalDate")) (by decide) rfl rfl (g := (mkF m 6 #[.val (.ref a1), .val .null, .val (.ref a2)] [.null, (.ref a1)])) rfl rfl (hb hby d3_6)
  have Fw4 := pr2.same W4
  have KK4 : Keep h0 h4 [a1] := (Keep.refl h0 [a1]).wr W4 (Or.inl (List.mem_of_getElem? (i := 0) rfl))
  have OL4 := OL0.wr W4 pr3
  have N4 := Fr.snoc X4 N0 pr3
  have fc5 := (pr1.wr W4)
  have fc6 := (pr4.other W4 (Or.inr (slot_ne (Or.inr (wd23 hw)) (Or.inr (wd21 hw)) (by decide) (t := (.object "java/lang/Integer")) (t' := (.object "java/time/LocalDate")) (by decide) (by decide))))
  obtain ⟨T7, h7, X7, e7, W7, st7⟩ := putF X4 hx hZ hown (host := "") (Or.inl (wd22 hw)) Via.refl e4 fc6 fc5 (Or.inr ⟨(wd23 hw), rfl, hnm⟩) (wd6 hw) (ty := (.object "java/lang/Integer")) (by decide) rfl rfl (g := (mkF m 11 #[.val (.ref a1), .val .null, .val (.ref a2)] [(.ref a2), (.ref a1)])) rfl rfl (hb hby d3_11)
  have Fw7 := fc6.same W7
  have KK7 : Keep h0 h7 [a1] := KK4.wr W7 (Or.inl (List.mem_of_getElem? (i := 0) rfl))
  have OL7 := OL4.wr W7 pr3
  have N7 := Fr.snoc X7 N4 pr3
  have fc8 := (Fw4.other W7 (Or.inr (slot_ne (Or.inr (wd21 hw)) (Or.inr (wd23 hw)) (by decide) (t := (.object "java/time/LocalDate")) (t' := (.object "java/lang/Integer")) (by decide) (by decide))))
  obtain ⟨fs, hr, hrun, hended, hW, hsame⟩ := X7.leave (v := none) (fun _ => rfl)
  refine ⟨_, _, pre0 _ ?_, hrun, hended, _, _, rfl, ?_, ⟨_, rfl⟩, hW, hsame.mono (by decide) (by decide)⟩
  · show Steps p.tables e below (s₁.setTop (mkF m 0 #[.val (.ref a1), .val .null, .val (.ref a2)] [])) _
    refine XS.aloadN X0.here hx rfl (hb hby d3_0) rfl rfl ?_
    show Steps p.tables e below (s₁.setTop (mkF m 1 #[.val (.ref a1), .val .null, .val (.ref a2)] [(.ref a1)])) _
    refine st3 _ ?_
    show Steps p.tables e below (T3.setTop (mkF m 4 #[.val (.ref a1), .val .null, .val (.ref a2)] [])) _
    refine XS.aloadN X3.here hx rfl (hb hby d3_4) rfl rfl ?_
    show Steps p.tables e below (T3.setTop (mkF m 5 #[.val (.ref a1), .val .null, .val (.ref a2)] [(.ref a1)])) _
    refine XS.aloadN X3.here hx rfl (hb hby d3_5) rfl rfl ?_
    show Steps p.tables e below (T3.setTop (mkF m 6 #[.val (.ref a1), .val .null, .val (.ref a2)] [.null, (.ref a1)])) _
    refine st4 _ ?_
    show Steps p.tables e below (T4.setTop (mkF m 9 #[.val (.ref a1), .val .null, .val (.ref a2)] [])) _
    refine XS.aloadN X4.here hx rfl (hb hby d3_9) rfl rfl ?_
    show Steps p.tables e below (T4.setTop (mkF m 10 #[.val (.ref a1), .val .null, .val (.ref a2)] [(.ref a1)])) _
    refine XS.aloadN X4.here hx rfl (hb hby d3_10) rfl rfl ?_
    show Steps p.tables e below (T4.setTop (mkF m 11 #[.val (.ref a1), .val .null, .val (.ref a2)] [(.ref a2), (.ref a1)])) _
    refine st7 _ ?_
    show Steps p.tables e below (T7.setTop (mkF m 14 #[.val (.ref a1), .val .null, .val (.ref a2)] [])) _
    exact X7.returnOut hx Bd.returns (hb hby d3_14) hr
  · show Q_rm3_1 Z a1 a2 h0 n0 _ T7.heap _
    rw [e7]
    exact ⟨rfl, N7, KK7, fc8, Fw7⟩
def Q_rm1_1 (Z : State) (p1 : Int32) (h0 : Heap) (n0 : Nat) (v : Option Value) (h : Heap) (L : List Loc) : Prop := ∃ b2 : Addr, ∃ b3_0 : Addr, v = some (.ref b2) ∧ Fr n0 L ∧ Keep h0 h [] ∧ h0.size ≤ b2 ∧ h0.size ≤ b3_0 ∧ b2 ≠ b3_0 ∧ Exa Z h b2 "com/example/larch/larch/model/RenewalLimit" ∧ Fld Z h b2 "com/example/larch/larch/model/RenewalLimit" "lastChargeDay" "Ljava/time/LocalDate;" .null ∧ Fld Z h b2 "com/example/larch/larch/model/RenewalLimit" "remainingPeriods" "Ljava/lang/Integer;" (.ref b3_0) ∧ Exa Z h b3_0 "java/lang/Integer" ∧ Fld Z h b3_0 "java/lang/Integer" "value" "I" (.int p1)
set_option maxRecDepth 65536 in
set_option maxHeartbeats 40000000 in
theorem rm1_1 (l : Launch) (Z : State) (a0 : Array Value) (hw : ∀ d ∈ tables_1, d.before a0 Z = true) (ws : List Jvm.Cond) (p1 : Int32) (h0 : Heap) (n0 : Nat) (OL0 : Old Z n0 h0) (pr1 : ¬ (p1 < (1 : Int32))) (pr2 : ¬ (p1 < (-128 : Int32))) (pr3 : Sta Z Z.heap "java/lang/Integer$IntegerCache" "high" "I" (.int (127 : Int32))) (pr4 : (127 : Int32) < p1) :
    MetFree l (⟨"com/example/larch/larch/model/RenewalLimit", "forPeriods", "(I)Lcom/example/larch/larch/model/RenewalLimit;"⟩ : MethodName) (head1 (Jvm.Cond.code (⟨"com/example/larch/larch/model/RenewalLimit", "forPeriods", "(I)Lcom/example/larch/larch/model/RenewalLimit;"⟩ : MethodName) prog_18_method_3_code 1 (some (.object "com/example/larch/larch/model/RenewalLimit")) :: ws) ({ frames := 4, cells := 2, slots := 3, locals := 53 } : Room)) (fun a U => a = #[(.int p1)] ∧ Z.Warmed39 U.vm ∧ U.heap = h0) (fun _ _ _ _ _ => True) (fun _ U o U' => ∃ v L, o = .returned v ∧ Q_rm1_1 Z p1 h0 n0 v U'.heap L ∧ FrameEnd U o U' L ({ frames := 4, cells := 2, slots := 3, locals := 53 } : Room).cells ({ frames := 4, cells := 2, slots := 3, locals := 53 } : Room).slots) := by
  refine MetFree.of_bodySF (plainFor_of_name pn_2) hisR ?_
  intro p e s m args below meth c s₁ Bd hml0 hP hK
  obtain ⟨rfl, hZ, hh⟩ := hP
  have hx := Bd.exec
  have hby := Bd.bytes
  have hml : c.maxLocals = 1 := hml0
  have hown : s.vm.findClass "com/example/larch/larch/model/RenewalLimit" = some m.cls := findClass_of_methodNamed Bd.named
  have hnm := (name_of_methodNamed Bd.named Bd.method).1
  have X0 : Stand p l e ({ frames := 4, cells := 2, slots := 3, locals := 53 } : Room) s m #[(.int p1)] below meth c s₁ [] 0 0 := Stand.of_body Bd
  have e0 : s₁.heap = h0 := by rw [← hh, Bd.state]; rfl
  have N0 := Fr.nil n0
  have pre0 : ∀ t, Steps p.tables e below (s₁.setTop (mkF m 0 #[.val (.int p1)] [])) t → Steps p.tables e below (s₁.setTop (entryFrame m #[(.int p1)] 1)) t := fun t k => castTop (ef_1_3 m p1) k
  obtain ⟨T2, h2, X2, e2, E2, A2, D2, -, st2⟩ := newO X0 hx hZ hown (wd5 hw) (wd6 hw) (wd3 hw) e0 (g := (mkF m 19 #[.val (.int p1)] [])) rfl (hb hby d1_19) (by decide) (by decide)
  obtain ⟨b2, g2⟩ : ∃ z, z = h0.size := ⟨_, rfl⟩
  rw [← g2] at A2 D2 st2
  have g_b2 : n0 ≤ b2 := (Nat.le_trans (Nat.le_trans (Nat.le_of_eq OL0.1.symm) OL0.2.1) (Nat.le_of_eq g2.symm))
  have sz_b2 : h0.size ≤ b2 := (Nat.le_trans (Keep.refl h0 []).1 (Nat.le_of_eq g2.symm))
  have KK2 : Keep h0 h2 [] := (Keep.refl h0 []).ext E2
  have OL2 := OL0.ext E2
  have F_lastChargeDay_b2 : Fld Z h2 b2 "com/example/larch/larch/model/RenewalLimit" "lastChargeDay" "Ljava/time/LocalDate;" .null := D2 (Or.inr (wd21 hw)) (ty := (.object "java/time/LocalDate")) (by decide)
  have F_remainingPeriods_b2 : Fld Z h2 b2 "com/example/larch/larch/model/RenewalLimit" "remainingPeriods" "Ljava/lang/Integer;" .null := D2 (Or.inr (wd23 hw)) (ty := (.object "java/lang/Integer")) (by decide)
  obtain ⟨_, _, ⟨T3, L3, k3, n3⟩, -, X3, ⟨Lc3, hQ3, l3, y3, z3⟩, st3⟩ := Jvm.LawKit.callS X2 hx (y := (⟨"java/lang/Integer", "valueOf", "(I)Ljava/lang/Integer;"⟩ : MethodName)) hown (mvT hZ (wd7 hw)) (mvT hZ (wd8 hw)) (mvT hZ (wd9 hw)) (mvT hZ (wd10 hw)) (by decide) (backOf (W := 3) (rm2_1 l Z a0 hw [] p1 h2 n0 OL2 pr2 pr3 pr4) hZ (wd10 hw) (wd9 hw) (by decide) (by decide)) (g := (mkF m 25 #[.val (.int p1)] [(.int p1), .null, (.ref b2), (.ref b2)])) rfl (by rw [hml]; rfl) (argsL := [(.int p1)]) (rest := [.null, (.ref b2), (.ref b2)]) (lenOf pd_0 rfl) rfl (by show 2 * 0 + _ ≤ _; exact Nat.le_of_eq rfl) (hb hby d1_25) (fun _ _ => ⟨rfl, e2, (by decide : 1 + 1 ≤ _), (by decide : 2 + 1 ≤ _)⟩)
  dsimp only [Pt.U, Pt.locs, Pt.cells, Pt.slots] at X3 l3 y3 z3 st3 hQ3
  subst l3 y3 z3
  obtain ⟨b3_0, rfl, Nq3, K3, u3_0, u3_1, u3_2⟩ := hQ3
  have KK3 : Keep h0 T3.heap [] := KK2.trans K3 all0
  have OL3 := OL2.keep K3 all0
  have g_b3_0 : n0 ≤ b3_0 := Nat.le_trans (Nat.le_trans (Nat.le_of_eq OL2.1.symm) OL2.2.1) u3_0
  have sz_b3_0 : h0.size ≤ b3_0 := Nat.le_trans KK2.1 u3_0
  have N3 := Fr.app N0 Nq3
  have fc5 := (A2.keep K3)
  have fc6 := (F_lastChargeDay_b2.keep K3 nin0)
  have fc7 := (F_remainingPeriods_b2.keep K3 nin0)
  obtain ⟨_, _, ⟨T4, L4, k4, n4⟩, -, X4, ⟨Lc4, hQ4, l4, y4, z4⟩, st4⟩ := X3.specialBack hx (y := (⟨"com/example/larch/larch/model/RenewalLimit", "<init>", "(Ljava/time/LocalDate;Ljava/lang/Integer;)V"⟩ : MethodName)) rfl hown (mvT hZ (wd14 hw)) (mvT hZ (wd15 hw)) (mvT hZ (wd16 hw)) (by decide) (backOf (W := 1) (rm3_1 l Z a0 hw [] b2 b3_0 T3.heap n0 OL3 fc5 fc6 g_b2 fc7) hZ (wd16 hw) (wd3 hw) (by decide) (by decide)) (g := (mkF m 28 #[.val (.int p1)] [(.ref b3_0), .null, (.ref b2), (.ref b2)])) rfl (by rw [hml]; rfl) (Steps.refl _) (a := b2) (argsL := [.null, (.ref b3_0)]) (rest := [(.ref b2)]) (lenOf pd_1 rfl) rfl (by show 2 * 0 + _ ≤ _; exact Nat.le_of_eq rfl) (hb hby d1_28) (fun _ _ => ⟨rfl, rfl, (by decide : 2 + 0 ≤ _), (by decide : 3 + 0 ≤ _)⟩)
  dsimp only [Pt.U, Pt.locs, Pt.cells, Pt.slots] at X4 l4 y4 z4 st4 hQ4
  subst l4 y4 z4
  obtain ⟨rfl, Nq4, K4, u4_0, u4_1⟩ := hQ4
  have KK4 : Keep h0 T4.heap [] := KK3.trans K4 (allS (Or.inr sz_b2) all0)
  have OL4 := OL3.keep K4 (allS g_b2 all0)
  have N4 := Fr.app N3 Nq4
  have fc8 := (fc5.keep K4)
  have fc9 := (u3_1.keep K4)
  have fc10 := (u3_2.keep K4 (ninS (Ne.symm (Nat.ne_of_lt (Nat.lt_of_lt_of_le F_remainingPeriods_b2.lt u3_0))) nin0))
  obtain ⟨fs, hr, hrun, hended, hW, hsame⟩ := X4.leave (v := some (.ref b2)) (fun h => by rw [Bd.returns] at h; cases h)
  refine ⟨_, _, pre0 _ ?_, hrun, hended, _, _, rfl, ?_, ⟨_, rfl⟩, hW, hsame.mono (by decide) (by decide)⟩
  · show Steps p.tables e below (s₁.setTop (mkF m 0 #[.val (.int p1)] [])) _
    refine XS.iloadN X0.here hx rfl (hb hby d1_0) rfl ?_
    show Steps p.tables e below (s₁.setTop (mkF m 1 #[.val (.int p1)] [(.int p1)])) _
    refine XS.iconst X0.here hx rfl (hb hby d1_1) ?_
    show Steps p.tables e below (s₁.setTop (mkF m 2 #[.val (.int p1)] [(.int (1 : Int32)), (.int p1)])) _
    refine XS.icmpYes X0.here hx rfl (pc0 := 2) (pc' := 19) rfl (hb hby d1_2) rfl (flt pr1).2.1 (by decide) (by decide) ?_
    show Steps p.tables e below (s₁.setTop (mkF m 19 #[.val (.int p1)] [])) _
    refine st2 _ ?_
    show Steps p.tables e below (T2.setTop (mkF m 22 #[.val (.int p1)] [(.ref b2)])) _
    refine XS.dup X2.here hx rfl (hb hby d1_22) rfl rfl ?_
    show Steps p.tables e below (T2.setTop (mkF m 23 #[.val (.int p1)] [(.ref b2), (.ref b2)])) _
    refine XS.aconstNull X2.here hx rfl (hb hby d1_23) ?_
    show Steps p.tables e below (T2.setTop (mkF m 24 #[.val (.int p1)] [.null, (.ref b2), (.ref b2)])) _
    refine XS.iloadN X2.here hx rfl (hb hby d1_24) rfl ?_
    show Steps p.tables e below (T2.setTop (mkF m 25 #[.val (.int p1)] [(.int p1), .null, (.ref b2), (.ref b2)])) _
    refine st3 _ ?_
    show Steps p.tables e below (T3.setTop (mkF m 28 #[.val (.int p1)] [(.ref b3_0), .null, (.ref b2), (.ref b2)])) _
    refine st4.trans ?_
    show Steps p.tables e below (T4.setTop (mkF m 31 #[.val (.int p1)] [(.ref b2)])) _
    jvm_step X4.here [X4.here.top, hx, (hb hby d1_31), X4.method', Bd.returns, Value.isRef, FieldType.isReference]
    first | (intro acts; rw [hr _ acts rfl rfl rfl]) | rw [hr _ _ rfl rfl rfl]
    exact Steps.refl _
  · show Q_rm1_1 Z p1 h0 n0 _ T4.heap _
    exact ⟨b2, b3_0, rfl, N4, KK4, sz_b2, sz_b3_0, (Nat.ne_of_lt (Nat.lt_of_lt_of_le F_remainingPeriods_b2.lt u3_0)), fc8, u4_0, u4_1, fc9, fc10⟩
def Q_rm5_1 (Z : State) (a1 : Addr) (a2 : Addr) (h0 : Heap) (n0 : Nat) (v : Option Value) (h : Heap) (L : List Loc) : Prop := v = some (.ref a2) ∧ Fr n0 L ∧ h = h0
set_option maxRecDepth 65536 in
set_option maxHeartbeats 40000000 in
theorem rm5_1 (l : Launch) (Z : State) (a0 : Array Value) (hw : ∀ d ∈ tables_1, d.before a0 Z = true) (ws : List Jvm.Cond) (a1 : Addr) (a2 : Addr) (h0 : Heap) (n0 : Nat) (OL0 : Old Z n0 h0) (pr1 : Fld Z h0 a1 "com/example/larch/larch/model/RenewalLimit" "remainingPeriods" "Ljava/lang/Integer;" (.ref a2)) :
    MetFree l (⟨"com/example/larch/larch/model/RenewalLimit", "remainingPeriods", "()Ljava/lang/Integer;"⟩ : MethodName) (head1 (Jvm.Cond.code (⟨"com/example/larch/larch/model/RenewalLimit", "remainingPeriods", "()Ljava/lang/Integer;"⟩ : MethodName) prog_18_method_5_code 1 (some (.object "java/lang/Integer")) :: ws) ({ frames := 0, cells := 0, slots := 0, locals := 0 } : Room)) (fun a U => a = #[(.ref a1)] ∧ Z.Warmed39 U.vm ∧ U.heap = h0) (fun _ _ _ _ _ => True) (fun _ U o U' => ∃ v L, o = .returned v ∧ Q_rm5_1 Z a1 a2 h0 n0 v U'.heap L ∧ FrameEnd U o U' L ({ frames := 0, cells := 0, slots := 0, locals := 0 } : Room).cells ({ frames := 0, cells := 0, slots := 0, locals := 0 } : Room).slots) := by
  refine MetFree.of_bodySF (plainFor_of_name pn_2) hisR ?_
  intro p e s m args below meth c s₁ Bd hml0 hP hK
  obtain ⟨rfl, hZ, hh⟩ := hP
  have hx := Bd.exec
  have hby := Bd.bytes
  have hml : c.maxLocals = 1 := hml0
  have hown : s.vm.findClass "com/example/larch/larch/model/RenewalLimit" = some m.cls := findClass_of_methodNamed Bd.named
  have hnm := (name_of_methodNamed Bd.named Bd.method).1
  have X0 : Stand p l e ({ frames := 0, cells := 0, slots := 0, locals := 0 } : Room) s m #[(.ref a1)] below meth c s₁ [] 0 0 := Stand.of_body Bd
  have e0 : s₁.heap = h0 := by rw [← hh, Bd.state]; rfl
  have N0 := Fr.nil n0
  have pre0 : ∀ t, Steps p.tables e below (s₁.setTop (mkF m 0 #[.val (.ref a1)] [])) t → Steps p.tables e below (s₁.setTop (entryFrame m #[(.ref a1)] 1)) t := fun t k => castTop (ef_5_4 m a1) k
  obtain ⟨T3, X3, e3, st3⟩ := getF X0 hx hZ hown (host := "") (Or.inl (wd22 hw)) Via.refl e0 pr1 (g := (mkF m 1 #[.val (.ref a1)] [(.ref a1)])) rfl rfl (hb hby d5_1)
  obtain ⟨fs, hr, hrun, hended, hW, hsame⟩ := X3.leave (v := some (.ref a2)) (fun h => by rw [Bd.returns] at h; cases h)
  refine ⟨_, _, pre0 _ ?_, hrun, hended, _, _, rfl, ?_, ⟨_, rfl⟩, hW, hsame.mono (by decide) (by decide)⟩
  · show Steps p.tables e below (s₁.setTop (mkF m 0 #[.val (.ref a1)] [])) _
    refine XS.aloadN X0.here hx rfl (hb hby d5_0) rfl rfl ?_
    show Steps p.tables e below (s₁.setTop (mkF m 1 #[.val (.ref a1)] [(.ref a1)])) _
    refine st3 _ ?_
    show Steps p.tables e below (T3.setTop (mkF m 4 #[.val (.ref a1)] [(.ref a2)])) _
    jvm_step X3.here [X3.here.top, hx, (hb hby d5_4), X3.method', Bd.returns, Value.isRef, FieldType.isReference]
    first | (intro acts; rw [hr _ acts rfl rfl rfl]) | rw [hr _ _ rfl rfl rfl]
    exact Steps.refl _
  · show Q_rm5_1 Z a1 a2 h0 n0 _ T3.heap _
    rw [e3]
    exact ⟨rfl, N0, rfl⟩
def Q_rm6_1 (Z : State) (a1 : Addr) (p2 : Int32) (h0 : Heap) (n0 : Nat) (v : Option Value) (h : Heap) (L : List Loc) : Prop := v = some (.int p2) ∧ Fr n0 L ∧ h = h0
set_option maxRecDepth 65536 in
set_option maxHeartbeats 40000000 in
theorem rm6_1 (l : Launch) (Z : State) (a0 : Array Value) (hw : ∀ d ∈ tables_1, d.before a0 Z = true) (ws : List Jvm.Cond) (a1 : Addr) (p2 : Int32) (h0 : Heap) (n0 : Nat) (OL0 : Old Z n0 h0) (pr1 : Fld Z h0 a1 "java/lang/Integer" "value" "I" (.int p2)) :
    MetFree l (⟨"java/lang/Integer", "intValue", "()I"⟩ : MethodName) (head1 (Jvm.Cond.code (⟨"java/lang/Integer", "intValue", "()I"⟩ : MethodName) jdk_33_method_27_code 1 (some .int) :: ws) ({ frames := 0, cells := 0, slots := 0, locals := 0 } : Room)) (fun a U => a = #[(.ref a1)] ∧ Z.Warmed39 U.vm ∧ U.heap = h0) (fun _ _ _ _ _ => True) (fun _ U o U' => ∃ v L, o = .returned v ∧ Q_rm6_1 Z a1 p2 h0 n0 v U'.heap L ∧ FrameEnd U o U' L ({ frames := 0, cells := 0, slots := 0, locals := 0 } : Room).cells ({ frames := 0, cells := 0, slots := 0, locals := 0 } : Room).slots) := by
  refine MetFree.of_bodySF (plainFor_of_name pn_1) hisR ?_
  intro p e s m args below meth c s₁ Bd hml0 hP hK
  obtain ⟨rfl, hZ, hh⟩ := hP
  have hx := Bd.exec
  have hby := Bd.bytes
  have hml : c.maxLocals = 1 := hml0
  have hown : s.vm.findClass "java/lang/Integer" = some m.cls := findClass_of_methodNamed Bd.named
  have hnm := (name_of_methodNamed Bd.named Bd.method).1
  have X0 : Stand p l e ({ frames := 0, cells := 0, slots := 0, locals := 0 } : Room) s m #[(.ref a1)] below meth c s₁ [] 0 0 := Stand.of_body Bd
  have e0 : s₁.heap = h0 := by rw [← hh, Bd.state]; rfl
  have N0 := Fr.nil n0
  have pre0 : ∀ t, Steps p.tables e below (s₁.setTop (mkF m 0 #[.val (.ref a1)] [])) t → Steps p.tables e below (s₁.setTop (entryFrame m #[(.ref a1)] 1)) t := fun t k => castTop (ef_6_5 m a1) k
  obtain ⟨T3, X3, e3, st3⟩ := getF X0 hx hZ hown (host := "") (Or.inl (wd36 hw)) Via.refl e0 pr1 (g := (mkF m 1 #[.val (.ref a1)] [(.ref a1)])) rfl rfl (hb hby d6_1)
  obtain ⟨fs, hr, hrun, hended, hW, hsame⟩ := X3.leave (v := some (.int p2)) (fun h => by rw [Bd.returns] at h; cases h)
  refine ⟨_, _, pre0 _ ?_, hrun, hended, _, _, rfl, ?_, ⟨_, rfl⟩, hW, hsame.mono (by decide) (by decide)⟩
  · show Steps p.tables e below (s₁.setTop (mkF m 0 #[.val (.ref a1)] [])) _
    refine XS.aloadN X0.here hx rfl (hb hby d6_0) rfl rfl ?_
    show Steps p.tables e below (s₁.setTop (mkF m 1 #[.val (.ref a1)] [(.ref a1)])) _
    refine st3 _ ?_
    show Steps p.tables e below (T3.setTop (mkF m 4 #[.val (.ref a1)] [(.int p2)])) _
    exact retI X3 hx Bd.returns (hb hby d6_4) hr
  · show Q_rm6_1 Z a1 p2 h0 n0 _ T3.heap _
    rw [e3]
    exact ⟨rfl, N0, rfl⟩
set_option maxRecDepth 65536 in
set_option maxHeartbeats 40000000 in
theorem rm0_b (l : Launch) (Z : State) (a0 : Array Value) (hw : ∀ d ∈ tables_1, d.before a0 Z = true) (ws : List Jvm.Cond) (p1 : Int32) (w_NONE : Addr) (h0 : Heap) (n0 : Nat) (OL0 : Old Z n0 h0) (pr1 : ¬ ((p1 &&& (2147483647 : Int32)) = (0 : Int32))) (pr2 : ¬ ((p1 &&& (2147483647 : Int32)) < (1 : Int32))) (pr3 : ¬ ((p1 &&& (2147483647 : Int32)) < (-128 : Int32))) (pr4 : Sta Z Z.heap "java/lang/Integer$IntegerCache" "high" "I" (.int (127 : Int32))) (pr5 : (127 : Int32) < (p1 &&& (2147483647 : Int32))) (pr6 : Sta Z Z.heap "com/example/larch/larch/model/RenewalLimit" "NONE" "Lcom/example/larch/larch/model/RenewalLimit;" (.ref w_NONE)) (pr7 : Exa Z Z.heap w_NONE "com/example/larch/larch/model/RenewalLimit") :
    MetFree l x (head1 (Jvm.Cond.code x code maxLocals ret :: ws) room_1) (fun a U => a = #[(.int p1)] ∧ Z.Warmed39 U.vm ∧ U.heap = h0) (fun _ _ _ _ _ => True) (fun _ U o U' => ∃ v L, o = .returned v ∧ Q0 n0 v L ∧ FrameEnd U o U' L 16 128) := by
  refine MetFree.of_bodySF (plainFor_of_name pn_0) hisR ?_
  intro p e s m args below meth c s₁ Bd hml0 hP hK
  obtain ⟨rfl, hZ, hh⟩ := hP
  have hx := Bd.exec
  have hby := Bd.bytes
  have hml : c.maxLocals = 4 := hml0
  have hown : s.vm.findClass "com/example/larch/larch/model/RenewalLimitForPeriodsPinLaw" = some m.cls := findClass_of_methodNamed Bd.named
  have hnm := (name_of_methodNamed Bd.named Bd.method).1
  have X0 : Stand p l e room_1 s m #[(.int p1)] below meth c s₁ [] 0 0 := Stand.of_body Bd
  have e0 : s₁.heap = h0 := by rw [← hh, Bd.state]; rfl
  have N0 := Fr.nil n0
  have pre0 : ∀ t, Steps p.tables e below (s₁.setTop (mkF m 0 #[.val (.int p1), .unset, .unset, .unset] [])) t → Steps p.tables e below (s₁.setTop (entryFrame m #[(.int p1)] maxLocals)) t := fun t k => castTop (ef_0_0 m p1) k
  obtain ⟨_, _, ⟨T1, L1, k1, n1⟩, -, X1, ⟨Lc1, hQ1, l1, y1, z1⟩, st1⟩ := Jvm.LawKit.callS X0 hx (y := (⟨"com/example/larch/larch/model/RenewalLimit", "forPeriods", "(I)Lcom/example/larch/larch/model/RenewalLimit;"⟩ : MethodName)) hown (mvT hZ (wd1 hw)) (mvT hZ (wd2 hw)) (mvT hZ (wd3 hw)) (mvT hZ (wd4 hw)) (by decide) (backOf (W := 0) (rm1_1 l Z a0 hw [] (p1 &&& (2147483647 : Int32)) h0 n0 OL0 pr2 pr3 pr4 pr5) hZ (wd4 hw) (wd3 hw) (by decide) (by decide)) (g := (mkF m 12 #[.val (.int p1), .val (.int (p1 &&& (2147483647 : Int32))), .unset, .unset] [(.int (p1 &&& (2147483647 : Int32)))])) rfl (by rw [hml]; rfl) (argsL := [(.int (p1 &&& (2147483647 : Int32)))]) (rest := []) (lenOf pd_2 rfl) rfl (by show 2 * 0 + _ ≤ _; exact Nat.le_of_eq rfl) (hb hby at_12) (fun _ _ => ⟨rfl, e0, (by decide : 0 + 2 ≤ _), (by decide : 0 + 3 ≤ _)⟩)
  dsimp only [Pt.U, Pt.locs, Pt.cells, Pt.slots] at X1 l1 y1 z1 st1 hQ1
  subst l1 y1 z1
  obtain ⟨b1_0, b1_1, rfl, Nq1, K1, u1_0, u1_1, u1_2, u1_3, u1_4, u1_5, u1_6, u1_7⟩ := hQ1
  have KK1 : Keep h0 T1.heap [] := (Keep.refl h0 []).trans K1 all0
  have OL1 := OL0.keep K1 all0
  have g_b1_0 : n0 ≤ b1_0 := Nat.le_trans (Nat.le_trans (Nat.le_of_eq OL0.1.symm) OL0.2.1) u1_0
  have sz_b1_0 : h0.size ≤ b1_0 := Nat.le_trans (Keep.refl h0 []).1 u1_0
  have g_b1_1 : n0 ≤ b1_1 := Nat.le_trans (Nat.le_trans (Nat.le_of_eq OL0.1.symm) OL0.2.1) u1_1
  have sz_b1_1 : h0.size ≤ b1_1 := Nat.le_trans (Keep.refl h0 []).1 u1_1
  have N1 := Fr.app N0 Nq1
  obtain ⟨T2, X2, e2, st2⟩ := getS2 X1 hx hZ hown (host := "") (Or.inl (wd24 hw)) Via.refl rfl (pr6.ext OL1.2) (g := (mkF m 21 #[.val (.int p1), .val (.int (p1 &&& (2147483647 : Int32))), .val (.ref b1_0), .unset] [(.ref b1_0)])) rfl (hb hby at_21)
  obtain ⟨cq3, kq3, q3a, q3b, q3c⟩ := isOf hZ e2 u1_3
  obtain ⟨_, _, ⟨T3, L3, k3, n3⟩, -, X3, ⟨Lc3, hQ3, l3, y3, z3⟩, st3⟩ := X2.virtualBack hx (y := (⟨"com/example/larch/larch/model/RenewalLimit", "remainingPeriods", "()Ljava/lang/Integer;"⟩ : MethodName)) (z := (⟨"com/example/larch/larch/model/RenewalLimit", "remainingPeriods", "()Ljava/lang/Integer;"⟩ : MethodName)) hown (mvT hZ (wd26 hw)) (mvT hZ (wd27 hw)) (notFace_of_selects (args := #[]) (mvT hZ (wd29 hw))) (mvT hZ (wd29 hw)) (mvT hZ (wd28 hw)) (by decide) (backOf (W := 0) (rm5_1 l Z a0 hw [] b1_0 b1_1 T1.heap n0 OL1 u1_5) hZ (wd30 hw) (wd3 hw) (by decide) (by decide)) q3a q3c (g := (mkF m 30 #[.val (.int p1), .val (.int (p1 &&& (2147483647 : Int32))), .val (.ref b1_0), .unset] [(.ref b1_0)])) rfl (by rw [hml]; rfl) (Steps.refl _) (argsL := []) (rest := []) (lenOf pd_3 rfl) rfl (by show 2 * 0 + _ ≤ _; exact Nat.le_of_eq rfl) (hb hby at_30) (fun _ _ => ⟨rfl, e2, (by decide : 2 + 0 ≤ _), (by decide : 3 + 0 ≤ _)⟩)
  dsimp only [Pt.U, Pt.locs, Pt.cells, Pt.slots] at X3 l3 y3 z3 st3 hQ3
  subst l3 y3 z3
  obtain ⟨rfl, Nq3, ec3⟩ := hQ3
  have N3 := Fr.app N1 Nq3
  obtain ⟨cq4, kq4, q4a, q4b, q4c⟩ := isOf hZ ec3 u1_6
  obtain ⟨_, _, ⟨T4, L4, k4, n4⟩, -, X4, ⟨Lc4, hQ4, l4, y4, z4⟩, st4⟩ := X3.virtualBack hx (y := (⟨"java/lang/Integer", "intValue", "()I"⟩ : MethodName)) (z := (⟨"java/lang/Integer", "intValue", "()I"⟩ : MethodName)) hown (mvT hZ (wd31 hw)) (mvT hZ (wd32 hw)) (notFace_of_selects (args := #[]) (mvT hZ (wd34 hw))) (mvT hZ (wd34 hw)) (mvT hZ (wd33 hw)) (by decide) (backOf (W := 0) (rm6_1 l Z a0 hw [] b1_1 (p1 &&& (2147483647 : Int32)) T1.heap n0 OL1 u1_7) hZ (wd35 hw) (wd9 hw) (by decide) (by decide)) q4a q4c (g := (mkF m 41 #[.val (.int p1), .val (.int (p1 &&& (2147483647 : Int32))), .val (.ref b1_0), .val (.ref b1_1)] [(.ref b1_1)])) rfl (by rw [hml]; rfl) (Steps.refl _) (argsL := []) (rest := []) (lenOf pd_4 rfl) rfl (by show 2 * 0 + _ ≤ _; exact Nat.le_of_eq rfl) (hb hby at_41) (fun _ _ => ⟨rfl, ec3, (by decide : 2 + 0 ≤ _), (by decide : 3 + 0 ≤ _)⟩)
  dsimp only [Pt.U, Pt.locs, Pt.cells, Pt.slots] at X4 l4 y4 z4 st4 hQ4
  subst l4 y4 z4
  obtain ⟨rfl, Nq4, ec4⟩ := hQ4
  have N4 := Fr.app N3 Nq4
  obtain ⟨cq5, kq5, q5a, q5b, q5c⟩ := isOf hZ ec4 u1_3
  obtain ⟨_, _, ⟨T5, L5, k5, n5⟩, -, X5, ⟨Lc5, hQ5, l5, y5, z5⟩, st5⟩ := X4.virtualBack hx (y := (⟨"com/example/larch/larch/model/RenewalLimit", "lastChargeDay", "()Ljava/time/LocalDate;"⟩ : MethodName)) (z := (⟨"com/example/larch/larch/model/RenewalLimit", "lastChargeDay", "()Ljava/time/LocalDate;"⟩ : MethodName)) hown (mvT hZ (wd38 hw)) (mvT hZ (wd39 hw)) (notFace_of_selects (args := #[]) (mvT hZ (wd41 hw))) (mvT hZ (wd41 hw)) (mvT hZ (wd40 hw)) (by decide) (backOf (W := 0) (rm7_0 l Z a0 hw [] b1_0 T1.heap n0 OL1 u1_4) hZ (wd42 hw) (wd3 hw) (by decide) (by decide)) q5a q5c (g := (mkF m 51 #[.val (.int p1), .val (.int (p1 &&& (2147483647 : Int32))), .val (.ref b1_0), .val (.ref b1_1)] [(.ref b1_0)])) rfl (by rw [hml]; rfl) (Steps.refl _) (argsL := []) (rest := []) (lenOf pd_5 rfl) rfl (by show 2 * 0 + _ ≤ _; exact Nat.le_of_eq rfl) (hb hby at_51) (fun _ _ => ⟨rfl, ec4, (by decide : 2 + 0 ≤ _), (by decide : 3 + 0 ≤ _)⟩)
  dsimp only [Pt.U, Pt.locs, Pt.cells, Pt.slots] at X5 l5 y5 z5 st5 hQ5
  subst l5 y5 z5
  obtain ⟨rfl, Nq5, ec5⟩ := hQ5
  have N5 := Fr.app N4 Nq5
  obtain ⟨fs, hr, hrun, hended, hW, hsame⟩ := X5.leave (v := some (.int (1 : Int32))) (fun h => by rw [Bd.returns] at h; cases h)
  refine ⟨_, _, pre0 _ ?_, hrun, hended, _, _, rfl, ?_, ⟨_, rfl⟩, hW, hsame.mono (by decide) (by decide)⟩
  · show Steps p.tables e below (s₁.setTop (mkF m 0 #[.val (.int p1), .unset, .unset, .unset] [])) _
    refine XS.iloadN X0.here hx rfl (hb hby at_0) rfl ?_
    show Steps p.tables e below (s₁.setTop (mkF m 1 #[.val (.int p1), .unset, .unset, .unset] [(.int p1)])) _
    refine X0.ldcInt hx hown (mvT hZ (wd0 hw)) (g := (mkF m 1 #[.val (.int p1), .unset, .unset, .unset] [(.int p1)])) rfl (hb hby at_1) _ ?_
    show Steps p.tables e below (s₁.setTop (mkF m 3 #[.val (.int p1), .unset, .unset, .unset] [(.int (2147483647 : Int32)), (.int p1)])) _
    refine XS.iand X0.here hx rfl (hb hby at_3) rfl ?_
    show Steps p.tables e below (s₁.setTop (mkF m 4 #[.val (.int p1), .unset, .unset, .unset] [(.int (p1 &&& (2147483647 : Int32)))])) _
    refine XS.istoreN X0.here hx rfl (hb hby at_4) rfl (l' := #[.val (.int p1), .val (.int (p1 &&& (2147483647 : Int32))), .unset, .unset]) rfl ?_
    show Steps p.tables e below (s₁.setTop (mkF m 5 #[.val (.int p1), .val (.int (p1 &&& (2147483647 : Int32))), .unset, .unset] [])) _
    refine XS.iloadN X0.here hx rfl (hb hby at_5) rfl ?_
    show Steps p.tables e below (s₁.setTop (mkF m 6 #[.val (.int p1), .val (.int (p1 &&& (2147483647 : Int32))), .unset, .unset] [(.int (p1 &&& (2147483647 : Int32)))])) _
    refine XS.ifYes X0.here hx rfl (pc0 := 6) (pc' := 11) rfl (hb hby at_6) rfl ((if0 _ _).trans (feq pr1).2) (by decide) (by decide) ?_
    show Steps p.tables e below (s₁.setTop (mkF m 11 #[.val (.int p1), .val (.int (p1 &&& (2147483647 : Int32))), .unset, .unset] [])) _
    refine XS.iloadN X0.here hx rfl (hb hby at_11) rfl ?_
    show Steps p.tables e below (s₁.setTop (mkF m 12 #[.val (.int p1), .val (.int (p1 &&& (2147483647 : Int32))), .unset, .unset] [(.int (p1 &&& (2147483647 : Int32)))])) _
    refine st1 _ ?_
    show Steps p.tables e below (T1.setTop (mkF m 15 #[.val (.int p1), .val (.int (p1 &&& (2147483647 : Int32))), .unset, .unset] [(.ref b1_0)])) _
    refine XS.astoreN X1.here hx rfl (hb hby at_15) rfl rfl (l' := #[.val (.int p1), .val (.int (p1 &&& (2147483647 : Int32))), .val (.ref b1_0), .unset]) rfl ?_
    show Steps p.tables e below (T1.setTop (mkF m 16 #[.val (.int p1), .val (.int (p1 &&& (2147483647 : Int32))), .val (.ref b1_0), .unset] [])) _
    refine XS.aloadN X1.here hx rfl (hb hby at_16) rfl rfl ?_
    show Steps p.tables e below (T1.setTop (mkF m 17 #[.val (.int p1), .val (.int (p1 &&& (2147483647 : Int32))), .val (.ref b1_0), .unset] [(.ref b1_0)])) _
    refine XS.ifnullNo X1.here hx rfl (hb hby at_17) rfl ?_
    show Steps p.tables e below (T1.setTop (mkF m 20 #[.val (.int p1), .val (.int (p1 &&& (2147483647 : Int32))), .val (.ref b1_0), .unset] [])) _
    refine XS.aloadN X1.here hx rfl (hb hby at_20) rfl rfl ?_
    show Steps p.tables e below (T1.setTop (mkF m 21 #[.val (.int p1), .val (.int (p1 &&& (2147483647 : Int32))), .val (.ref b1_0), .unset] [(.ref b1_0)])) _
    refine st2 _ ?_
    show Steps p.tables e below (T2.setTop (mkF m 24 #[.val (.int p1), .val (.int (p1 &&& (2147483647 : Int32))), .val (.ref b1_0), .unset] [(.ref w_NONE), (.ref b1_0)])) _
    refine Jvm.RoadKit.acmp (g := (mkF m 24 #[.val (.int p1), .val (.int (p1 &&& (2147483647 : Int32))), .val (.ref b1_0), .unset] [(.ref w_NONE), (.ref b1_0)])) X2 hx rfl rfl rfl (pc0 := 24) (pc' := 29) (same := false) rfl (hb hby at_24) rfl (decide_eq_false fun q => (Ne.symm (OL0.ne pr7.lt g_b1_0)) (Value.ref.inj q)) (by decide) (by decide) ?_
    show Steps p.tables e below (T2.setTop (mkF m 29 #[.val (.int p1), .val (.int (p1 &&& (2147483647 : Int32))), .val (.ref b1_0), .unset] [])) _
    refine XS.aloadN X2.here hx rfl (hb hby at_29) rfl rfl ?_
    show Steps p.tables e below (T2.setTop (mkF m 30 #[.val (.int p1), .val (.int (p1 &&& (2147483647 : Int32))), .val (.ref b1_0), .unset] [(.ref b1_0)])) _
    refine st3.trans ?_
    show Steps p.tables e below (T3.setTop (mkF m 33 #[.val (.int p1), .val (.int (p1 &&& (2147483647 : Int32))), .val (.ref b1_0), .unset] [(.ref b1_1)])) _
    refine XS.astoreN X3.here hx rfl (hb hby at_33) rfl rfl (l' := #[.val (.int p1), .val (.int (p1 &&& (2147483647 : Int32))), .val (.ref b1_0), .val (.ref b1_1)]) rfl ?_
    show Steps p.tables e below (T3.setTop (mkF m 34 #[.val (.int p1), .val (.int (p1 &&& (2147483647 : Int32))), .val (.ref b1_0), .val (.ref b1_1)] [])) _
    refine XS.aloadN X3.here hx rfl (hb hby at_34) rfl rfl ?_
    show Steps p.tables e below (T3.setTop (mkF m 35 #[.val (.int p1), .val (.int (p1 &&& (2147483647 : Int32))), .val (.ref b1_0), .val (.ref b1_1)] [(.ref b1_1)])) _
    refine XS.ifnonnullYes X3.here hx rfl (pc0 := 35) (pc' := 40) rfl (hb hby at_35) rfl (by decide) (by decide) ?_
    show Steps p.tables e below (T3.setTop (mkF m 40 #[.val (.int p1), .val (.int (p1 &&& (2147483647 : Int32))), .val (.ref b1_0), .val (.ref b1_1)] [])) _
    refine XS.aloadN X3.here hx rfl (hb hby at_40) rfl rfl ?_
    show Steps p.tables e below (T3.setTop (mkF m 41 #[.val (.int p1), .val (.int (p1 &&& (2147483647 : Int32))), .val (.ref b1_0), .val (.ref b1_1)] [(.ref b1_1)])) _
    refine st4.trans ?_
    show Steps p.tables e below (T4.setTop (mkF m 44 #[.val (.int p1), .val (.int (p1 &&& (2147483647 : Int32))), .val (.ref b1_0), .val (.ref b1_1)] [(.int (p1 &&& (2147483647 : Int32)))])) _
    refine XS.iloadN X4.here hx rfl (hb hby at_44) rfl ?_
    show Steps p.tables e below (T4.setTop (mkF m 45 #[.val (.int p1), .val (.int (p1 &&& (2147483647 : Int32))), .val (.ref b1_0), .val (.ref b1_1)] [(.int (p1 &&& (2147483647 : Int32))), (.int (p1 &&& (2147483647 : Int32)))])) _
    refine XS.icmpYes X4.here hx rfl (pc0 := 45) (pc' := 50) rfl (hb hby at_45) rfl (teq (rfl : (p1 &&& (2147483647 : Int32)) = (p1 &&& (2147483647 : Int32)))).1 (by decide) (by decide) ?_
    show Steps p.tables e below (T4.setTop (mkF m 50 #[.val (.int p1), .val (.int (p1 &&& (2147483647 : Int32))), .val (.ref b1_0), .val (.ref b1_1)] [])) _
    refine XS.aloadN X4.here hx rfl (hb hby at_50) rfl rfl ?_
    show Steps p.tables e below (T4.setTop (mkF m 51 #[.val (.int p1), .val (.int (p1 &&& (2147483647 : Int32))), .val (.ref b1_0), .val (.ref b1_1)] [(.ref b1_0)])) _
    refine st5.trans ?_
    show Steps p.tables e below (T5.setTop (mkF m 54 #[.val (.int p1), .val (.int (p1 &&& (2147483647 : Int32))), .val (.ref b1_0), .val (.ref b1_1)] [.null])) _
    refine XS.ifnonnullNo X5.here hx rfl (hb hby at_54) rfl ?_
    show Steps p.tables e below (T5.setTop (mkF m 57 #[.val (.int p1), .val (.int (p1 &&& (2147483647 : Int32))), .val (.ref b1_0), .val (.ref b1_1)] [])) _
    refine XS.iconst X5.here hx rfl (hb hby at_57) ?_
    show Steps p.tables e below (T5.setTop (mkF m 58 #[.val (.int p1), .val (.int (p1 &&& (2147483647 : Int32))), .val (.ref b1_0), .val (.ref b1_1)] [(.int (1 : Int32))])) _
    refine XS.goto X5.here hx rfl (pc0 := 58) (pc' := 62) rfl (hb hby at_58) (by decide) (by decide) ?_
    show Steps p.tables e below (T5.setTop (mkF m 62 #[.val (.int p1), .val (.int (p1 &&& (2147483647 : Int32))), .val (.ref b1_0), .val (.ref b1_1)] [(.int (1 : Int32))])) _
    exact retN X5 hx (t := .boolean) Bd.returns (by simp) (hb hby at_62) hr
  · exact ⟨rfl, N5⟩
set_option maxRecDepth 65536 in
set_option maxHeartbeats 40000000 in
theorem comes_1 {Post : Tables → Env → Array Value → State → Outcome → State → Prop} (hpost : ∀ tb e args s v u, (limb_1_1.after args s (.returned v) u = true ∧ limb_1_2.after args s (.returned v) u = true ∧ True) → FrameEnd s (.returned v) u (Jvm.fieldLocs frame_1_writes args s ++ Jvm.arrayLocs frame_1_arrays args s ++ Jvm.staticLocs frame_1_statics s) 16 128 → Post tb e args s (.returned v) u) :
    ArmFor flags0 classFile x code maxLocals ret World_1 tables_1 room_1 Calls_1 rest_1 Pre_1 Post := by
  intro l hfl _ _ p e ha hc hk s m args below hf hA hF happ hP
  obtain ⟨hcalls, hrest, hpre⟩ := hP
  obtain ⟨-, -, -, hnamed, -, -, -, hat⟩ := (Spec.applies_iff hf).mp happ
  obtain ⟨hg, hn⟩ := and_e (Cond.before_iff.mp (show (Jvm.Cond.and given_1 narrow_1).before args s = true from hpre))
  obtain ⟨g6, g7⟩ := and_e hg
  obtain ⟨w0, rfl⟩ : ∃ w0 : Value, args = #[w0] := by
    have hs : args.size = 1 := by simpa [Cond.value, given_1] using g6
    obtain ⟨L⟩ := args
    match L, hs with
    | [w0], _ => exact ⟨w0, rfl⟩
  have hw := fun d (hd : d ∈ tables_1) => atoms_spec (ws := Jvm.Cond.code x code maxLocals ret :: tables_1) hat d (List.mem_cons_of_mem _ hd)
  have hfit : Fit s := fun {y c} hc i hi => by
    obtain ⟨ha, rfl⟩ := Array.getElem?_eq_some_iff.mp hc
    have q := List.all_eq_true.mp ((Array.all_eq_true_iff_forall_mem.mp hF) _ (Array.getElem_mem ha)) i (List.mem_range.mpr hi)
    simpa [Array.getElem?_eq_getElem hi] using q
  obtain ⟨hsets, hown0⟩ := atoms_of _ (rest_1_c_eq ▸ (show rest_1_c.before _ s = true from hrest))
  obtain ⟨i0, ei0⟩ := is_v g7
  obtain rfl : w0 = (.int i0) := Option.some.inj ei0
  obtain ⟨w_NONE, ev1⟩ := exa_v hn
  have S_RenewalLimit_NONE : Sta s s.heap "com/example/larch/larch/model/RenewalLimit" "NONE" "Lcom/example/larch/larch/model/RenewalLimit;" (.ref w_NONE) := Sta.start ev1 (Or.inr ⟨(wd3 hw), (wd25 hw)⟩)
  have E_w_NONE : Exa s s.heap w_NONE "com/example/larch/larch/model/RenewalLimit" := Exa.start ev1 hn
  obtain ⟨w_cache, ev2⟩ := exa_v (Cond.before_iff.mp (hsets _ (List.mem_of_getElem? (i := 5) rfl)))
  have S_Integer_IntegerCache_cache : Sta s s.heap "java/lang/Integer$IntegerCache" "cache" "[Ljava/lang/Integer;" (.ref w_cache) := Sta.start ev2 (Or.inr ⟨(wd12 hw), (hsets _ (List.mem_of_getElem? (i := 2) rfl))⟩)
  have E_w_cache : Exa s s.heap w_cache "[Ljava/lang/Integer;" := Exa.start ev2 (Cond.before_iff.mp (hsets _ (List.mem_of_getElem? (i := 5) rfl)))
  have ev3 := own_eqI (Cond.before_iff.mp (hsets _ (List.mem_of_getElem? (i := 3) rfl)))
  have S_Integer_IntegerCache_high : Sta s s.heap "java/lang/Integer$IntegerCache" "high" "I" (.int (127 : Int32)) := Sta.start ev3 (Or.inl (hsets _ (List.mem_of_getElem? (i := 1) rfl)))
  obtain ⟨cc_w_cache, B_w_cache⟩ := own_bxs (z := 256) (val := fun j => .int (j - 128)) ev2 (Cond.before_iff.mp (hsets _ (List.mem_of_getElem? (i := 4) rfl))) (Cond.before_iff.mp (hsets _ (List.mem_of_getElem? (i := 6) rfl))) (by decide) (Cond.before_iff.mp (hsets _ (List.mem_of_getElem? (i := 7) rfl))) (fun X j hj h => eqv_i (own_idx hj) h)
  have e31 := c_mask i0 2147483647 31 (by decide) (by decide)
  have l0 : (0 : Int32).toInt = 0 := by decide
  have l1 : (1 : Int32).toInt = 1 := by decide
  have l127 : (127 : Int32).toInt = 127 := by decide
  have l128 : (128 : Int32).toInt = 128 := by decide
  have lm : (-128 : Int32).toInt = -128 := by decide
  have l256 : (256 : Int32).toInt = 256 := by decide
  have R : MetFree l x (head1 (Jvm.Cond.code x code maxLocals ret :: tables_1) room_1) (fun a U => a = #[(.int i0)] ∧ s.Warmed39 U.vm ∧ U.heap = s.heap) (fun _ _ _ _ _ => True) (fun _ U o U' => ∃ v L, o = .returned v ∧ Q0 s.heap.size v L ∧ FrameEnd U o U' L 16 128) := by
    by_cases hz : (i0 &&& (2147483647 : Int32)) = (0 : Int32)
    · exact rm0_z l s _ hw tables_1 i0 s.heap s.heap.size (Old.start s) hz
    · have hz' : ¬ ((i0 &&& (2147483647 : Int32))).toInt = 0 := fun q => hz (Int32.toInt_inj.mp (q.trans l0.symm))
      by_cases hb : (127 : Int32) < (i0 &&& (2147483647 : Int32))
      · exact rm0_b l s _ hw tables_1 i0 w_NONE s.heap s.heap.size (Old.start s) hz (by rw [Int32.lt_iff_toInt_lt]; omega : ¬ ((i0 &&& (2147483647 : Int32)) < (1 : Int32))) (by rw [Int32.lt_iff_toInt_lt]; omega : ¬ ((i0 &&& (2147483647 : Int32)) < (-128 : Int32))) S_Integer_IntegerCache_high hb S_RenewalLimit_NONE E_w_NONE
      · have hb' := hb
        rw [Int32.lt_iff_toInt_lt] at hb'
        have ea := c_iadd (i0 &&& (2147483647 : Int32)) (128 : Int32)
        have er := rng32 ((i0 &&& (2147483647 : Int32)) + (128 : Int32))
        obtain ⟨wc1, at_wc1, E_wc1, F0_wc1⟩ := own_box B_w_cache (j := ((i0 &&& (2147483647 : Int32)) + (128 : Int32))) (by rw [Int32.lt_iff_toInt_lt]; omega) (by rw [Int32.lt_iff_toInt_lt]; omega)
        have F_wc1 : Fld s s.heap wc1 "java/lang/Integer" "value" "I" (.int (i0 &&& (2147483647 : Int32))) := by have q := F0_wc1; simp only [own_addsub] at q; exact q
        exact rm0_s l s _ hw tables_1 i0 w_cache wc1 w_NONE s.heap s.heap.size (Old.start s) hz (by rw [Int32.lt_iff_toInt_lt]; omega : ¬ ((i0 &&& (2147483647 : Int32)) < (1 : Int32))) (by rw [Int32.lt_iff_toInt_lt]; omega : ¬ ((i0 &&& (2147483647 : Int32)) < (-128 : Int32))) S_Integer_IntegerCache_high hb S_Integer_IntegerCache_cache at_wc1 S_RenewalLimit_NONE E_w_NONE F_wc1 E_wc1
  obtain ⟨n, o, h1, h2, h3, _, L, rfl, ⟨rfl, N⟩, hq⟩ := R p e ha hc hk s m _ below hf ((Spec.applies_iff_loose hf).mp happ).1 ⟨rfl, State.Warmed39.refl s, rfl⟩ trivial
  refine ⟨n, _, h1, h2, h3, hpost _ _ _ _ _ _ ⟨Cond.after_iff.mpr rfl, Cond.after_iff.mpr (eq_i res_at (Term.int_eval (1)) rfl), trivial⟩ ⟨hq.1, hq.2.1, (hq.2.2.sift fun y hy => Or.inr (N y hy)).mono (by decide) (by decide)⟩⟩
theorem main_1_1 : Claimed_1_1 := comes_1 fun _ _ _ _ _ _ h hF => ⟨h.1, hF⟩
theorem main_1_2 : Claimed_1_2 := comes_1 fun _ _ _ _ _ _ h hF => ⟨h.2.1, hF⟩
end Jvm.Pilot.@@N@@
namespace Jvm.Pilot.@@N@@
open Jvm Jvm.ClassFile Sem Op Lib Jvm.Free Jvm.Stand Jvm.Pilot.@@N@@.Jvm.D
/-! MADE BY PROGRAM (witnessworld.py) out of the Statement's table words and the real class files: 16 classes; the members and pool entries that the words name. The judged class is class 1, her method 1. -/
namespace start1
open Jvm.ClassFile
def u (s : String) : CpInfo := .utf8 (stringToUtf16 s)
/-- a pool by its gaps: so many unusable entries, then the entry; so many at the end -/
def gap : Nat → List CpInfo → List CpInfo
  | 0, r => r
  | n + 1, r => .unusable :: gap n r
def poolList (es : List (Nat × CpInfo)) (last : Nat) : List CpInfo := es.foldr (fun e r => gap e.1 (e.2 :: r)) (gap last [])
def pool (es : List (Nat × CpInfo)) (last : Nat) : Array CpInfo := ⟨poolList es last⟩
def fileOf (pool : Array CpInfo) (this : Nat) (attrs : Array Attribute := #[]) (ms : Array MethodInfo := #[]) (fl : Nat := 33) (sup : Nat := 0) (ifs : Array Nat := #[]) (fds : Array FieldInfo := #[]) : ClassFile where
  minorVersion := 0
  majorVersion := 65
  constantPool := pool
  accessFlags := fl
  thisClass := this
  superClass := sup
  interfaces := ifs
  fields := fds
  methods := ms
  attributes := attrs
def plain (name : String) (sup : Option ClassId) : Class where
  name := name
  kind := .ordinary
  loader := none
  accessFlags := 33
  super := sup
  interfaces := #[]
  cf := none
  fields := #[]
  methods := #[]
  instanceTypes := #[]
  staticTypes := #[]
  resolved := #[]
  callSites := []
  init := .initialized
  statics := none
  mirror := none

def pool0 : Array CpInfo := pool [(5, u "<init>"), (0, u "()V"), (1, .class_ 10), (1, u "java/lang/Object")] 113

def k0c0 : Code := { maxStack := 0, maxLocals := 1, code := object_method_1_code, exceptionTable := #[], attributes := #[] }
def k0m0 : Method := { name := "<init>", desc := "()V", sig := { parameters := [], returnType := none }, accessFlags := 1, code := some k0c0 }
/-- java/lang/Object -/
def k0 : Class := { plain "java/lang/Object" none with
  accessFlags := 33
  interfaces := #[]
  cf := some (fileOf pool0 8 #[] #[{ accessFlags := 1, nameIndex := 5, descriptorIndex := 6, attributes := #[] }] 33 0 #[] #[])
  fields := #[]
  methods := #[k0m0]
  instanceTypes := #[]
  staticTypes := #[]
  resolved := Array.replicate 124 none
  statics := none }

def pool1 : Array CpInfo := pool [(2, .class_ 4), (1, u "java/lang/Object"), (0, u "<init>"), (0, u "()V"), (0, .integer 2147483647), (0, .methodref 9 10), (0, .class_ 11), (0, .nameAndType 12 13), (0, u "com/example/larch/larch/model/RenewalLimit"), (0, u "forPeriods"), (0, u "(I)Lcom/example/larch/larch/model/RenewalLimit;"), (0, .fieldref 9 15), (0, .nameAndType 16 17), (0, u "NONE"), (0, u "Lcom/example/larch/larch/model/RenewalLimit;"), (0, .methodref 9 19), (0, .nameAndType 20 21), (0, u "remainingPeriods"), (0, u "()Ljava/lang/Integer;"), (0, .methodref 23 24), (0, .class_ 25), (0, .nameAndType 26 27), (0, u "java/lang/Integer"), (0, u "intValue"), (0, u "()I"), (0, .methodref 9 29), (0, .nameAndType 30 31), (0, u "lastChargeDay"), (0, u "()Ljava/time/LocalDate;"), (0, .class_ 33), (0, u "com/example/larch/larch/model/RenewalLimitForPeriodsPinLaw"), (2, u "law"), (0, u "(I)Z")] 3

def k1m0 : Method := { name := "<init>", desc := "()V", sig := { parameters := [], returnType := none }, accessFlags := 2, code := none }
def k1c1 : Code := { maxStack := 2, maxLocals := 4, code := code, exceptionTable := #[], attributes := #[] }
def k1m1 : Method := { name := "law", desc := "(I)Z", sig := { parameters := [.int], returnType := some .boolean }, accessFlags := 9, code := some k1c1 }
/-- com/example/larch/larch/model/RenewalLimitForPeriodsPinLaw -/
def k1 : Class := { plain "com/example/larch/larch/model/RenewalLimitForPeriodsPinLaw" (some 0) with
  accessFlags := 49
  interfaces := #[]
  cf := some (fileOf pool1 32 #[] #[{ accessFlags := 2, nameIndex := 5, descriptorIndex := 6, attributes := #[] }, { accessFlags := 9, nameIndex := 36, descriptorIndex := 37, attributes := #[] }] 49 2 #[] #[])
  fields := #[]
  methods := #[k1m0, k1m1]
  instanceTypes := #[]
  staticTypes := #[]
  resolved := Array.replicate 41 none
  statics := none }

def pool2 : Array CpInfo := pool [(1, .methodref 2 3), (0, .class_ 4), (0, .nameAndType 5 6), (0, u "java/lang/Object"), (0, u "<init>"), (0, u "()V"), (0, .fieldref 8 9), (0, .class_ 10), (0, .nameAndType 11 12), (0, u "com/example/larch/larch/model/RenewalLimit"), (0, u "lastChargeDay"), (0, u "Ljava/time/LocalDate;"), (0, .fieldref 8 14), (0, .nameAndType 15 16), (0, u "remainingPeriods"), (0, u "Ljava/lang/Integer;"), (9, .methodref 8 27), (0, .nameAndType 5 28), (0, u "(Ljava/time/LocalDate;Ljava/lang/Integer;)V"), (9, .methodref 39 40), (0, .class_ 41), (0, .nameAndType 42 43), (0, u "java/lang/Integer"), (0, u "valueOf"), (0, u "(I)Ljava/lang/Integer;"), (2, u "NONE"), (0, u "Lcom/example/larch/larch/model/RenewalLimit;"), (4, u "forPeriods"), (0, u "(I)Lcom/example/larch/larch/model/RenewalLimit;"), (1, u "()Ljava/time/LocalDate;"), (0, u "()Ljava/lang/Integer;")] 18

def k2c0 : Code := { maxStack := 2, maxLocals := 3, code := prog_18_method_1_code, exceptionTable := #[], attributes := #[] }
def k2m0 : Method := { name := "<init>", desc := "(Ljava/time/LocalDate;Ljava/lang/Integer;)V", sig := { parameters := [(.object "java/time/LocalDate"), (.object "java/lang/Integer")], returnType := none }, accessFlags := 2, code := some k2c0 }
def k2c1 : Code := { maxStack := 4, maxLocals := 1, code := prog_18_method_3_code, exceptionTable := #[], attributes := #[] }
def k2m1 : Method := { name := "forPeriods", desc := "(I)Lcom/example/larch/larch/model/RenewalLimit;", sig := { parameters := [.int], returnType := some (.object "com/example/larch/larch/model/RenewalLimit") }, accessFlags := 9, code := some k2c1 }
def k2c2 : Code := { maxStack := 1, maxLocals := 1, code := prog_18_method_4_code, exceptionTable := #[], attributes := #[] }
def k2m2 : Method := { name := "lastChargeDay", desc := "()Ljava/time/LocalDate;", sig := { parameters := [], returnType := some (.object "java/time/LocalDate") }, accessFlags := 1, code := some k2c2 }
def k2c3 : Code := { maxStack := 1, maxLocals := 1, code := prog_18_method_5_code, exceptionTable := #[], attributes := #[] }
def k2m3 : Method := { name := "remainingPeriods", desc := "()Ljava/lang/Integer;", sig := { parameters := [], returnType := some (.object "java/lang/Integer") }, accessFlags := 1, code := some k2c3 }
/-- com/example/larch/larch/model/RenewalLimit -/
def k2 : Class := { plain "com/example/larch/larch/model/RenewalLimit" (some 0) with
  accessFlags := 49
  interfaces := #[]
  cf := some (fileOf pool2 8 #[] #[{ accessFlags := 2, nameIndex := 5, descriptorIndex := 28, attributes := #[] }, { accessFlags := 9, nameIndex := 52, descriptorIndex := 53, attributes := #[] }, { accessFlags := 1, nameIndex := 11, descriptorIndex := 55, attributes := #[] }, { accessFlags := 1, nameIndex := 15, descriptorIndex := 56, attributes := #[] }] 49 2 #[] #[{ accessFlags := 25, nameIndex := 46, descriptorIndex := 47, attributes := #[] }, { accessFlags := 18, nameIndex := 11, descriptorIndex := 12, attributes := #[] }, { accessFlags := 18, nameIndex := 15, descriptorIndex := 16, attributes := #[] }])
  fields := #[{ name := "NONE", type := (.object "com/example/larch/larch/model/RenewalLimit"), accessFlags := 25, slot := 0, constantValue := 0 }, { name := "lastChargeDay", type := (.object "java/time/LocalDate"), accessFlags := 18, slot := 0, constantValue := 0 }, { name := "remainingPeriods", type := (.object "java/lang/Integer"), accessFlags := 18, slot := 1, constantValue := 0 }]
  methods := #[k2m0, k2m1, k2m2, k2m3]
  instanceTypes := #[(.object "java/time/LocalDate"), (.object "java/lang/Integer")]
  staticTypes := #[(.object "com/example/larch/larch/model/RenewalLimit")]
  resolved := Array.replicate 75 none
  statics := some 0 }

def pool3 : Array CpInfo := pool [(1, .class_ 2), (0, u "java/io/Serializable"), (0, .class_ 4), (0, u "java/lang/Object")] 2

/-- java/io/Serializable -/
def k3 : Class := { plain "java/io/Serializable" (some 0) with
  accessFlags := 1537
  interfaces := #[]
  cf := some (fileOf pool3 1 #[] #[] 1537 3 #[] #[])
  fields := #[]
  methods := #[]
  instanceTypes := #[]
  staticTypes := #[]
  resolved := Array.replicate 7 none
  statics := none }

def pool4 : Array CpInfo := pool [(1, .methodref 2 3), (0, .class_ 4), (0, .nameAndType 5 6), (0, u "java/lang/Object"), (0, u "<init>"), (0, u "()V"), (1, .class_ 10), (1, u "java/lang/Number"), (2, .class_ 14), (0, u "java/io/Serializable"), (0, u "serialVersionUID"), (0, u "J")] 20

def k4c0 : Code := { maxStack := 1, maxLocals := 1, code := jdk_18_method_1_code, exceptionTable := #[], attributes := #[] }
def k4m0 : Method := { name := "<init>", desc := "()V", sig := { parameters := [], returnType := none }, accessFlags := 1, code := some k4c0 }
/-- java/lang/Number -/
def k4 : Class := { plain "java/lang/Number" (some 0) with
  accessFlags := 1057
  interfaces := #[3]
  cf := some (fileOf pool4 8 #[] #[{ accessFlags := 1, nameIndex := 5, descriptorIndex := 6, attributes := #[] }] 1057 2 #[13] #[{ accessFlags := 26, nameIndex := 15, descriptorIndex := 16, attributes := #[] }])
  fields := #[{ name := "serialVersionUID", type := .long, accessFlags := 26, slot := 0, constantValue := 0 }]
  methods := #[k4m0]
  instanceTypes := #[]
  staticTypes := #[.long]
  resolved := Array.replicate 37 none
  statics := none }

def pool5 : Array CpInfo := pool [(1, .class_ 2), (0, u "java/lang/Comparable"), (0, .class_ 4), (0, u "java/lang/Object")] 7

/-- java/lang/Comparable -/
def k5 : Class := { plain "java/lang/Comparable" (some 0) with
  accessFlags := 1537
  interfaces := #[]
  cf := some (fileOf pool5 1 #[] #[] 1537 3 #[] #[])
  fields := #[]
  methods := #[]
  instanceTypes := #[]
  staticTypes := #[]
  resolved := Array.replicate 12 none
  statics := none }

def pool6 : Array CpInfo := pool [(1, .class_ 2), (0, u "java/lang/constant/Constable"), (0, .class_ 4), (0, u "java/lang/Object")] 6

/-- java/lang/constant/Constable -/
def k6 : Class := { plain "java/lang/constant/Constable" (some 0) with
  accessFlags := 1537
  interfaces := #[]
  cf := some (fileOf pool6 1 #[] #[] 1537 3 #[] #[])
  fields := #[]
  methods := #[]
  instanceTypes := #[]
  staticTypes := #[]
  resolved := Array.replicate 11 none
  statics := none }

def pool7 : Array CpInfo := pool [(1, .class_ 2), (0, u "java/lang/constant/ConstantDesc"), (0, .class_ 4), (0, u "java/lang/Object")] 32

/-- java/lang/constant/ConstantDesc -/
def k7 : Class := { plain "java/lang/constant/ConstantDesc" (some 0) with
  accessFlags := 1537
  interfaces := #[]
  cf := some (fileOf pool7 1 #[] #[] 1537 3 #[] #[])
  fields := #[]
  methods := #[]
  instanceTypes := #[]
  staticTypes := #[]
  resolved := Array.replicate 37 none
  statics := none }

def pool8 : Array CpInfo := pool [(1, .class_ 2), (0, u "java/lang/Integer"), (16, u "digits"), (0, u "[C"), (46, u "<init>"), (17, u "DigitOnes"), (0, u "[B"), (2, u "DigitTens"), (10, .nameAndType 67 101), (0, u "()V"), (19, u "()I"), (65, u "valueOf"), (0, u "(I)Ljava/lang/Integer;"), (0, .class_ 190), (0, u "java/lang/Integer$IntegerCache"), (0, .fieldref 189 192), (0, .nameAndType 193 194), (0, u "high"), (0, u "I"), (0, .fieldref 189 196), (0, .nameAndType 197 198), (0, u "cache"), (0, u "[Ljava/lang/Integer;"), (0, .methodref 1 200), (0, .nameAndType 67 201), (0, u "(I)V"), (0, .methodref 203 100), (0, .class_ 204), (0, u "java/lang/Number"), (0, .fieldref 1 206), (0, .nameAndType 207 194), (0, u "value"), (5, u "intValue"), (88, u "TYPE"), (0, u "Ljava/lang/Class;"), (0, .class_ 305), (0, u "java/lang/Comparable"), (0, .class_ 307), (0, u "java/lang/constant/Constable"), (0, .class_ 309), (0, u "java/lang/constant/ConstantDesc"), (0, u "MIN_VALUE"), (1, u "MAX_VALUE"), (3, u "SIZE"), (1, u "BYTES"), (1, u "serialVersionUID"), (0, u "J")] 131

def k8c0 : Code := { maxStack := 3, maxLocals := 1, code := jdk_33_method_22_code, exceptionTable := #[], attributes := #[] }
def k8m0 : Method := { name := "valueOf", desc := "(I)Ljava/lang/Integer;", sig := { parameters := [.int], returnType := some (.object "java/lang/Integer") }, accessFlags := 9, code := some k8c0 }
def k8c1 : Code := { maxStack := 2, maxLocals := 2, code := jdk_33_method_23_code, exceptionTable := #[], attributes := #[] }
def k8m1 : Method := { name := "<init>", desc := "(I)V", sig := { parameters := [.int], returnType := none }, accessFlags := 1, code := some k8c1 }
def k8c2 : Code := { maxStack := 1, maxLocals := 1, code := jdk_33_method_27_code, exceptionTable := #[], attributes := #[] }
def k8m2 : Method := { name := "intValue", desc := "()I", sig := { parameters := [], returnType := some .int }, accessFlags := 1, code := some k8c2 }
/-- java/lang/Integer -/
def k8 : Class := { plain "java/lang/Integer" (some 4) with
  accessFlags := 49
  interfaces := #[5, 6, 7]
  cf := some (fileOf pool8 1 #[.nestMembers #[189]] #[{ accessFlags := 9, nameIndex := 187, descriptorIndex := 188, attributes := #[] }, { accessFlags := 1, nameIndex := 67, descriptorIndex := 201, attributes := #[] }, { accessFlags := 1, nameIndex := 213, descriptorIndex := 121, attributes := #[] }] 49 203 #[304, 306, 308] #[{ accessFlags := 25, nameIndex := 310, descriptorIndex := 194, attributes := #[] }, { accessFlags := 25, nameIndex := 312, descriptorIndex := 194, attributes := #[] }, { accessFlags := 25, nameIndex := 302, descriptorIndex := 303, attributes := #[] }, { accessFlags := 24, nameIndex := 19, descriptorIndex := 20, attributes := #[] }, { accessFlags := 24, nameIndex := 89, descriptorIndex := 86, attributes := #[] }, { accessFlags := 24, nameIndex := 85, descriptorIndex := 86, attributes := #[] }, { accessFlags := 18, nameIndex := 207, descriptorIndex := 194, attributes := #[] }, { accessFlags := 25, nameIndex := 316, descriptorIndex := 194, attributes := #[] }, { accessFlags := 25, nameIndex := 318, descriptorIndex := 194, attributes := #[] }, { accessFlags := 26, nameIndex := 320, descriptorIndex := 321, attributes := #[] }])
  fields := #[{ name := "MIN_VALUE", type := .int, accessFlags := 25, slot := 0, constantValue := 0 }, { name := "MAX_VALUE", type := .int, accessFlags := 25, slot := 1, constantValue := 0 }, { name := "TYPE", type := (.object "java/lang/Class"), accessFlags := 25, slot := 2, constantValue := 0 }, { name := "digits", type := (.array .char), accessFlags := 24, slot := 3, constantValue := 0 }, { name := "DigitTens", type := (.array .byte), accessFlags := 24, slot := 4, constantValue := 0 }, { name := "DigitOnes", type := (.array .byte), accessFlags := 24, slot := 5, constantValue := 0 }, { name := "value", type := .int, accessFlags := 18, slot := 0, constantValue := 0 }, { name := "SIZE", type := .int, accessFlags := 25, slot := 6, constantValue := 0 }, { name := "BYTES", type := .int, accessFlags := 25, slot := 7, constantValue := 0 }, { name := "serialVersionUID", type := .long, accessFlags := 26, slot := 8, constantValue := 0 }]
  methods := #[k8m0, k8m1, k8m2]
  instanceTypes := #[.int]
  staticTypes := #[.int, .int, (.object "java/lang/Class"), (.array .char), (.array .byte), (.array .byte), .int, .int, .long]
  resolved := Array.replicate 453 none
  statics := none }

def pool9 : Array CpInfo := pool [(2, .class_ 4), (1, u "java/lang/Object"), (0, u "<init>"), (0, u "()V"), (0, .class_ 8), (0, u "java/lang/Integer"), (7, .class_ 18), (1, u "java/lang/Integer$IntegerCache"), (0, u "$assertionsDisabled"), (0, u "Z"), (26, u "high"), (0, u "I"), (8, u "archivedCache"), (0, u "[Ljava/lang/Integer;"), (12, u "cache"), (0, u "low")] 27

def k9m0 : Method := { name := "<init>", desc := "()V", sig := { parameters := [], returnType := none }, accessFlags := 2, code := none }
/-- java/lang/Integer$IntegerCache -/
def k9 : Class := { plain "java/lang/Integer$IntegerCache" (some 0) with
  accessFlags := 48
  interfaces := #[]
  cf := some (fileOf pool9 16 #[.nestHost 7] #[{ accessFlags := 2, nameIndex := 5, descriptorIndex := 6, attributes := #[] }] 48 2 #[] #[{ accessFlags := 24, nameIndex := 72, descriptorIndex := 48, attributes := #[] }, { accessFlags := 24, nameIndex := 47, descriptorIndex := 48, attributes := #[] }, { accessFlags := 24, nameIndex := 71, descriptorIndex := 58, attributes := #[] }, { accessFlags := 8, nameIndex := 57, descriptorIndex := 58, attributes := #[] }, { accessFlags := 4120, nameIndex := 19, descriptorIndex := 20, attributes := #[] }])
  fields := #[{ name := "low", type := .int, accessFlags := 24, slot := 0, constantValue := 0 }, { name := "high", type := .int, accessFlags := 24, slot := 1, constantValue := 0 }, { name := "cache", type := (.array (.object "java/lang/Integer")), accessFlags := 24, slot := 2, constantValue := 0 }, { name := "archivedCache", type := (.array (.object "java/lang/Integer")), accessFlags := 8, slot := 3, constantValue := 0 }, { name := "$assertionsDisabled", type := .boolean, accessFlags := 4120, slot := 4, constantValue := 0 }]
  methods := #[k9m0]
  instanceTypes := #[]
  staticTypes := #[.int, .int, (.array (.object "java/lang/Integer")), (.array (.object "java/lang/Integer")), .boolean]
  resolved := Array.replicate 100 none
  statics := some 1 }

def pool10 : Array CpInfo := pool [(1, u "java/lang/Cloneable"), (0, .class_ 1), (0, u "java/lang/Object"), (0, .class_ 3)] 3

/-- java/lang/Cloneable -/
def k10 : Class := { plain "java/lang/Cloneable" (some 0) with
  accessFlags := 1537
  interfaces := #[]
  cf := some (fileOf pool10 2 #[] #[] 1537 4 #[] #[])
  fields := #[]
  methods := #[]
  instanceTypes := #[]
  staticTypes := #[]
  resolved := Array.replicate 8 none
  statics := none }

/-- the primitive byte -/
def k11 : Class := { plain "byte" none with kind := .primitive 'B', accessFlags := 0x411 }
/-- [B -/
def k12 : Class := { plain "[B" (some 0) with kind := .array 11 .byte, interfaces := #[10, 3], accessFlags := 1041 }

/-- the primitive int -/
def k13 : Class := { plain "int" none with kind := .primitive 'I', accessFlags := 0x411 }
/-- [I -/
def k14 : Class := { plain "[I" (some 0) with kind := .array 13 .int, interfaces := #[10, 3], accessFlags := 1041 }

/-- [Ljava/lang/Integer; -/
def k15 : Class := { plain "[Ljava/lang/Integer;" (some 0) with kind := .array 8 (.object "java/lang/Integer"), interfaces := #[10, 3], accessFlags := 1041 }

def heap : Heap := #[{ cls := 2, slots := #[.ref 3], vm := .statics 2 },
  { cls := 9, slots := #[.int 0, .int 127, .ref 2, .null, .int 0], vm := .statics 9 },
  { cls := 15, slots := #[.ref 4, .ref 5, .ref 6, .ref 7, .ref 8, .ref 9, .ref 10, .ref 11, .ref 12, .ref 13, .ref 14, .ref 15, .ref 16, .ref 17, .ref 18, .ref 19, .ref 20, .ref 21, .ref 22, .ref 23, .ref 24, .ref 25, .ref 26, .ref 27, .ref 28, .ref 29, .ref 30, .ref 31, .ref 32, .ref 33, .ref 34, .ref 35, .ref 36, .ref 37, .ref 38, .ref 39, .ref 40, .ref 41, .ref 42, .ref 43, .ref 44, .ref 45, .ref 46, .ref 47, .ref 48, .ref 49, .ref 50, .ref 51, .ref 52, .ref 53, .ref 54, .ref 55, .ref 56, .ref 57, .ref 58, .ref 59, .ref 60, .ref 61, .ref 62, .ref 63, .ref 64, .ref 65, .ref 66, .ref 67, .ref 68, .ref 69, .ref 70, .ref 71, .ref 72, .ref 73, .ref 74, .ref 75, .ref 76, .ref 77, .ref 78, .ref 79, .ref 80, .ref 81, .ref 82, .ref 83, .ref 84, .ref 85, .ref 86, .ref 87, .ref 88, .ref 89, .ref 90, .ref 91, .ref 92, .ref 93, .ref 94, .ref 95, .ref 96, .ref 97, .ref 98, .ref 99, .ref 100, .ref 101, .ref 102, .ref 103, .ref 104, .ref 105, .ref 106, .ref 107, .ref 108, .ref 109, .ref 110, .ref 111, .ref 112, .ref 113, .ref 114, .ref 115, .ref 116, .ref 117, .ref 118, .ref 119, .ref 120, .ref 121, .ref 122, .ref 123, .ref 124, .ref 125, .ref 126, .ref 127, .ref 128, .ref 129, .ref 130, .ref 131, .ref 132, .ref 133, .ref 134, .ref 135, .ref 136, .ref 137, .ref 138, .ref 139, .ref 140, .ref 141, .ref 142, .ref 143, .ref 144, .ref 145, .ref 146, .ref 147, .ref 148, .ref 149, .ref 150, .ref 151, .ref 152, .ref 153, .ref 154, .ref 155, .ref 156, .ref 157, .ref 158, .ref 159, .ref 160, .ref 161, .ref 162, .ref 163, .ref 164, .ref 165, .ref 166, .ref 167, .ref 168, .ref 169, .ref 170, .ref 171, .ref 172, .ref 173, .ref 174, .ref 175, .ref 176, .ref 177, .ref 178, .ref 179, .ref 180, .ref 181, .ref 182, .ref 183, .ref 184, .ref 185, .ref 186, .ref 187, .ref 188, .ref 189, .ref 190, .ref 191, .ref 192, .ref 193, .ref 194, .ref 195, .ref 196, .ref 197, .ref 198, .ref 199, .ref 200, .ref 201, .ref 202, .ref 203, .ref 204, .ref 205, .ref 206, .ref 207, .ref 208, .ref 209, .ref 210, .ref 211, .ref 212, .ref 213, .ref 214, .ref 215, .ref 216, .ref 217, .ref 218, .ref 219, .ref 220, .ref 221, .ref 222, .ref 223, .ref 224, .ref 225, .ref 226, .ref 227, .ref 228, .ref 229, .ref 230, .ref 231, .ref 232, .ref 233, .ref 234, .ref 235, .ref 236, .ref 237, .ref 238, .ref 239, .ref 240, .ref 241, .ref 242, .ref 243, .ref 244, .ref 245, .ref 246, .ref 247, .ref 248, .ref 249, .ref 250, .ref 251, .ref 252, .ref 253, .ref 254, .ref 255, .ref 256, .ref 257, .ref 258, .ref 259], vm := .none },
  { cls := 2, slots := #[.null, .null], vm := .none },
  { cls := 8, slots := #[.int (-128)], vm := .none },
  { cls := 8, slots := #[.int (-127)], vm := .none },
  { cls := 8, slots := #[.int (-126)], vm := .none },
  { cls := 8, slots := #[.int (-125)], vm := .none },
  { cls := 8, slots := #[.int (-124)], vm := .none },
  { cls := 8, slots := #[.int (-123)], vm := .none },
  { cls := 8, slots := #[.int (-122)], vm := .none },
  { cls := 8, slots := #[.int (-121)], vm := .none },
  { cls := 8, slots := #[.int (-120)], vm := .none },
  { cls := 8, slots := #[.int (-119)], vm := .none },
  { cls := 8, slots := #[.int (-118)], vm := .none },
  { cls := 8, slots := #[.int (-117)], vm := .none },
  { cls := 8, slots := #[.int (-116)], vm := .none },
  { cls := 8, slots := #[.int (-115)], vm := .none },
  { cls := 8, slots := #[.int (-114)], vm := .none },
  { cls := 8, slots := #[.int (-113)], vm := .none },
  { cls := 8, slots := #[.int (-112)], vm := .none },
  { cls := 8, slots := #[.int (-111)], vm := .none },
  { cls := 8, slots := #[.int (-110)], vm := .none },
  { cls := 8, slots := #[.int (-109)], vm := .none },
  { cls := 8, slots := #[.int (-108)], vm := .none },
  { cls := 8, slots := #[.int (-107)], vm := .none },
  { cls := 8, slots := #[.int (-106)], vm := .none },
  { cls := 8, slots := #[.int (-105)], vm := .none },
  { cls := 8, slots := #[.int (-104)], vm := .none },
  { cls := 8, slots := #[.int (-103)], vm := .none },
  { cls := 8, slots := #[.int (-102)], vm := .none },
  { cls := 8, slots := #[.int (-101)], vm := .none },
  { cls := 8, slots := #[.int (-100)], vm := .none },
  { cls := 8, slots := #[.int (-99)], vm := .none },
  { cls := 8, slots := #[.int (-98)], vm := .none },
  { cls := 8, slots := #[.int (-97)], vm := .none },
  { cls := 8, slots := #[.int (-96)], vm := .none },
  { cls := 8, slots := #[.int (-95)], vm := .none },
  { cls := 8, slots := #[.int (-94)], vm := .none },
  { cls := 8, slots := #[.int (-93)], vm := .none },
  { cls := 8, slots := #[.int (-92)], vm := .none },
  { cls := 8, slots := #[.int (-91)], vm := .none },
  { cls := 8, slots := #[.int (-90)], vm := .none },
  { cls := 8, slots := #[.int (-89)], vm := .none },
  { cls := 8, slots := #[.int (-88)], vm := .none },
  { cls := 8, slots := #[.int (-87)], vm := .none },
  { cls := 8, slots := #[.int (-86)], vm := .none },
  { cls := 8, slots := #[.int (-85)], vm := .none },
  { cls := 8, slots := #[.int (-84)], vm := .none },
  { cls := 8, slots := #[.int (-83)], vm := .none },
  { cls := 8, slots := #[.int (-82)], vm := .none },
  { cls := 8, slots := #[.int (-81)], vm := .none },
  { cls := 8, slots := #[.int (-80)], vm := .none },
  { cls := 8, slots := #[.int (-79)], vm := .none },
  { cls := 8, slots := #[.int (-78)], vm := .none },
  { cls := 8, slots := #[.int (-77)], vm := .none },
  { cls := 8, slots := #[.int (-76)], vm := .none },
  { cls := 8, slots := #[.int (-75)], vm := .none },
  { cls := 8, slots := #[.int (-74)], vm := .none },
  { cls := 8, slots := #[.int (-73)], vm := .none },
  { cls := 8, slots := #[.int (-72)], vm := .none },
  { cls := 8, slots := #[.int (-71)], vm := .none },
  { cls := 8, slots := #[.int (-70)], vm := .none },
  { cls := 8, slots := #[.int (-69)], vm := .none },
  { cls := 8, slots := #[.int (-68)], vm := .none },
  { cls := 8, slots := #[.int (-67)], vm := .none },
  { cls := 8, slots := #[.int (-66)], vm := .none },
  { cls := 8, slots := #[.int (-65)], vm := .none },
  { cls := 8, slots := #[.int (-64)], vm := .none },
  { cls := 8, slots := #[.int (-63)], vm := .none },
  { cls := 8, slots := #[.int (-62)], vm := .none },
  { cls := 8, slots := #[.int (-61)], vm := .none },
  { cls := 8, slots := #[.int (-60)], vm := .none },
  { cls := 8, slots := #[.int (-59)], vm := .none },
  { cls := 8, slots := #[.int (-58)], vm := .none },
  { cls := 8, slots := #[.int (-57)], vm := .none },
  { cls := 8, slots := #[.int (-56)], vm := .none },
  { cls := 8, slots := #[.int (-55)], vm := .none },
  { cls := 8, slots := #[.int (-54)], vm := .none },
  { cls := 8, slots := #[.int (-53)], vm := .none },
  { cls := 8, slots := #[.int (-52)], vm := .none },
  { cls := 8, slots := #[.int (-51)], vm := .none },
  { cls := 8, slots := #[.int (-50)], vm := .none },
  { cls := 8, slots := #[.int (-49)], vm := .none },
  { cls := 8, slots := #[.int (-48)], vm := .none },
  { cls := 8, slots := #[.int (-47)], vm := .none },
  { cls := 8, slots := #[.int (-46)], vm := .none },
  { cls := 8, slots := #[.int (-45)], vm := .none },
  { cls := 8, slots := #[.int (-44)], vm := .none },
  { cls := 8, slots := #[.int (-43)], vm := .none },
  { cls := 8, slots := #[.int (-42)], vm := .none },
  { cls := 8, slots := #[.int (-41)], vm := .none },
  { cls := 8, slots := #[.int (-40)], vm := .none },
  { cls := 8, slots := #[.int (-39)], vm := .none },
  { cls := 8, slots := #[.int (-38)], vm := .none },
  { cls := 8, slots := #[.int (-37)], vm := .none },
  { cls := 8, slots := #[.int (-36)], vm := .none },
  { cls := 8, slots := #[.int (-35)], vm := .none },
  { cls := 8, slots := #[.int (-34)], vm := .none },
  { cls := 8, slots := #[.int (-33)], vm := .none },
  { cls := 8, slots := #[.int (-32)], vm := .none },
  { cls := 8, slots := #[.int (-31)], vm := .none },
  { cls := 8, slots := #[.int (-30)], vm := .none },
  { cls := 8, slots := #[.int (-29)], vm := .none },
  { cls := 8, slots := #[.int (-28)], vm := .none },
  { cls := 8, slots := #[.int (-27)], vm := .none },
  { cls := 8, slots := #[.int (-26)], vm := .none },
  { cls := 8, slots := #[.int (-25)], vm := .none },
  { cls := 8, slots := #[.int (-24)], vm := .none },
  { cls := 8, slots := #[.int (-23)], vm := .none },
  { cls := 8, slots := #[.int (-22)], vm := .none },
  { cls := 8, slots := #[.int (-21)], vm := .none },
  { cls := 8, slots := #[.int (-20)], vm := .none },
  { cls := 8, slots := #[.int (-19)], vm := .none },
  { cls := 8, slots := #[.int (-18)], vm := .none },
  { cls := 8, slots := #[.int (-17)], vm := .none },
  { cls := 8, slots := #[.int (-16)], vm := .none },
  { cls := 8, slots := #[.int (-15)], vm := .none },
  { cls := 8, slots := #[.int (-14)], vm := .none },
  { cls := 8, slots := #[.int (-13)], vm := .none },
  { cls := 8, slots := #[.int (-12)], vm := .none },
  { cls := 8, slots := #[.int (-11)], vm := .none },
  { cls := 8, slots := #[.int (-10)], vm := .none },
  { cls := 8, slots := #[.int (-9)], vm := .none },
  { cls := 8, slots := #[.int (-8)], vm := .none },
  { cls := 8, slots := #[.int (-7)], vm := .none },
  { cls := 8, slots := #[.int (-6)], vm := .none },
  { cls := 8, slots := #[.int (-5)], vm := .none },
  { cls := 8, slots := #[.int (-4)], vm := .none },
  { cls := 8, slots := #[.int (-3)], vm := .none },
  { cls := 8, slots := #[.int (-2)], vm := .none },
  { cls := 8, slots := #[.int (-1)], vm := .none },
  { cls := 8, slots := #[.int 0], vm := .none },
  { cls := 8, slots := #[.int 1], vm := .none },
  { cls := 8, slots := #[.int 2], vm := .none },
  { cls := 8, slots := #[.int 3], vm := .none },
  { cls := 8, slots := #[.int 4], vm := .none },
  { cls := 8, slots := #[.int 5], vm := .none },
  { cls := 8, slots := #[.int 6], vm := .none },
  { cls := 8, slots := #[.int 7], vm := .none },
  { cls := 8, slots := #[.int 8], vm := .none },
  { cls := 8, slots := #[.int 9], vm := .none },
  { cls := 8, slots := #[.int 10], vm := .none },
  { cls := 8, slots := #[.int 11], vm := .none },
  { cls := 8, slots := #[.int 12], vm := .none },
  { cls := 8, slots := #[.int 13], vm := .none },
  { cls := 8, slots := #[.int 14], vm := .none },
  { cls := 8, slots := #[.int 15], vm := .none },
  { cls := 8, slots := #[.int 16], vm := .none },
  { cls := 8, slots := #[.int 17], vm := .none },
  { cls := 8, slots := #[.int 18], vm := .none },
  { cls := 8, slots := #[.int 19], vm := .none },
  { cls := 8, slots := #[.int 20], vm := .none },
  { cls := 8, slots := #[.int 21], vm := .none },
  { cls := 8, slots := #[.int 22], vm := .none },
  { cls := 8, slots := #[.int 23], vm := .none },
  { cls := 8, slots := #[.int 24], vm := .none },
  { cls := 8, slots := #[.int 25], vm := .none },
  { cls := 8, slots := #[.int 26], vm := .none },
  { cls := 8, slots := #[.int 27], vm := .none },
  { cls := 8, slots := #[.int 28], vm := .none },
  { cls := 8, slots := #[.int 29], vm := .none },
  { cls := 8, slots := #[.int 30], vm := .none },
  { cls := 8, slots := #[.int 31], vm := .none },
  { cls := 8, slots := #[.int 32], vm := .none },
  { cls := 8, slots := #[.int 33], vm := .none },
  { cls := 8, slots := #[.int 34], vm := .none },
  { cls := 8, slots := #[.int 35], vm := .none },
  { cls := 8, slots := #[.int 36], vm := .none },
  { cls := 8, slots := #[.int 37], vm := .none },
  { cls := 8, slots := #[.int 38], vm := .none },
  { cls := 8, slots := #[.int 39], vm := .none },
  { cls := 8, slots := #[.int 40], vm := .none },
  { cls := 8, slots := #[.int 41], vm := .none },
  { cls := 8, slots := #[.int 42], vm := .none },
  { cls := 8, slots := #[.int 43], vm := .none },
  { cls := 8, slots := #[.int 44], vm := .none },
  { cls := 8, slots := #[.int 45], vm := .none },
  { cls := 8, slots := #[.int 46], vm := .none },
  { cls := 8, slots := #[.int 47], vm := .none },
  { cls := 8, slots := #[.int 48], vm := .none },
  { cls := 8, slots := #[.int 49], vm := .none },
  { cls := 8, slots := #[.int 50], vm := .none },
  { cls := 8, slots := #[.int 51], vm := .none },
  { cls := 8, slots := #[.int 52], vm := .none },
  { cls := 8, slots := #[.int 53], vm := .none },
  { cls := 8, slots := #[.int 54], vm := .none },
  { cls := 8, slots := #[.int 55], vm := .none },
  { cls := 8, slots := #[.int 56], vm := .none },
  { cls := 8, slots := #[.int 57], vm := .none },
  { cls := 8, slots := #[.int 58], vm := .none },
  { cls := 8, slots := #[.int 59], vm := .none },
  { cls := 8, slots := #[.int 60], vm := .none },
  { cls := 8, slots := #[.int 61], vm := .none },
  { cls := 8, slots := #[.int 62], vm := .none },
  { cls := 8, slots := #[.int 63], vm := .none },
  { cls := 8, slots := #[.int 64], vm := .none },
  { cls := 8, slots := #[.int 65], vm := .none },
  { cls := 8, slots := #[.int 66], vm := .none },
  { cls := 8, slots := #[.int 67], vm := .none },
  { cls := 8, slots := #[.int 68], vm := .none },
  { cls := 8, slots := #[.int 69], vm := .none },
  { cls := 8, slots := #[.int 70], vm := .none },
  { cls := 8, slots := #[.int 71], vm := .none },
  { cls := 8, slots := #[.int 72], vm := .none },
  { cls := 8, slots := #[.int 73], vm := .none },
  { cls := 8, slots := #[.int 74], vm := .none },
  { cls := 8, slots := #[.int 75], vm := .none },
  { cls := 8, slots := #[.int 76], vm := .none },
  { cls := 8, slots := #[.int 77], vm := .none },
  { cls := 8, slots := #[.int 78], vm := .none },
  { cls := 8, slots := #[.int 79], vm := .none },
  { cls := 8, slots := #[.int 80], vm := .none },
  { cls := 8, slots := #[.int 81], vm := .none },
  { cls := 8, slots := #[.int 82], vm := .none },
  { cls := 8, slots := #[.int 83], vm := .none },
  { cls := 8, slots := #[.int 84], vm := .none },
  { cls := 8, slots := #[.int 85], vm := .none },
  { cls := 8, slots := #[.int 86], vm := .none },
  { cls := 8, slots := #[.int 87], vm := .none },
  { cls := 8, slots := #[.int 88], vm := .none },
  { cls := 8, slots := #[.int 89], vm := .none },
  { cls := 8, slots := #[.int 90], vm := .none },
  { cls := 8, slots := #[.int 91], vm := .none },
  { cls := 8, slots := #[.int 92], vm := .none },
  { cls := 8, slots := #[.int 93], vm := .none },
  { cls := 8, slots := #[.int 94], vm := .none },
  { cls := 8, slots := #[.int 95], vm := .none },
  { cls := 8, slots := #[.int 96], vm := .none },
  { cls := 8, slots := #[.int 97], vm := .none },
  { cls := 8, slots := #[.int 98], vm := .none },
  { cls := 8, slots := #[.int 99], vm := .none },
  { cls := 8, slots := #[.int 100], vm := .none },
  { cls := 8, slots := #[.int 101], vm := .none },
  { cls := 8, slots := #[.int 102], vm := .none },
  { cls := 8, slots := #[.int 103], vm := .none },
  { cls := 8, slots := #[.int 104], vm := .none },
  { cls := 8, slots := #[.int 105], vm := .none },
  { cls := 8, slots := #[.int 106], vm := .none },
  { cls := 8, slots := #[.int 107], vm := .none },
  { cls := 8, slots := #[.int 108], vm := .none },
  { cls := 8, slots := #[.int 109], vm := .none },
  { cls := 8, slots := #[.int 110], vm := .none },
  { cls := 8, slots := #[.int 111], vm := .none },
  { cls := 8, slots := #[.int 112], vm := .none },
  { cls := 8, slots := #[.int 113], vm := .none },
  { cls := 8, slots := #[.int 114], vm := .none },
  { cls := 8, slots := #[.int 115], vm := .none },
  { cls := 8, slots := #[.int 116], vm := .none },
  { cls := 8, slots := #[.int 117], vm := .none },
  { cls := 8, slots := #[.int 118], vm := .none },
  { cls := 8, slots := #[.int 119], vm := .none },
  { cls := 8, slots := #[.int 120], vm := .none },
  { cls := 8, slots := #[.int 121], vm := .none },
  { cls := 8, slots := #[.int 122], vm := .none },
  { cls := 8, slots := #[.int 123], vm := .none },
  { cls := 8, slots := #[.int 124], vm := .none },
  { cls := 8, slots := #[.int 125], vm := .none },
  { cls := 8, slots := #[.int 126], vm := .none },
  { cls := 8, slots := #[.int 127], vm := .none }]
def classes : Array Class := #[k0, k1, k2, k3, k4, k5, k6, k7, k8, k9, k10, k11, k12, k13, k14, k15]
def interned : List (Array UInt16 × Addr) := []
def slotsUsed : Nat := 520
def theMethod : MethodId := ⟨1, 1⟩
def args0 : Array Value := #[.int 5]
def aboutOver (below : List Frame) : State where
  vm := { classes := classes, interned := interned.toArray }
  heap := heap
  slotsUsed := slotsUsed
  threads := #[{ frames := .invoking theMethod args0 :: below }]
def below0 : List Frame := [.native { method := ⟨0, 0⟩, args := #[] }]
def about1 : State := aboutOver below0
def p0 : Program := .bare "" "" ""
def e0 : Env := launch0.env 0 0 0
theorem w_frames : about1.frames = Frame.invoking theMethod args0 :: below0 := rfl
set_option maxRecDepth 65536 in
theorem w_args : argsFit about1.vm theMethod args0 = true := by decide +kernel
set_option maxRecDepth 65536 in
theorem w_heap : heapFits about1 = true := by decide +kernel
set_option maxRecDepth 65536 in
theorem w_runnable : about1.curStatus? = some .runnable := by decide +kernel
set_option maxRecDepth 65536 in
theorem w_alone : about1.alone = true := by decide +kernel
set_option maxRecDepth 65536 in
theorem w_named : about1.methodNamed? x = some theMethod := by decide +kernel
set_option maxRecDepth 65536 in
theorem w_hears : about1.hears theMethod below0 = true := by decide +kernel
set_option maxRecDepth 65536 in
theorem w_ripe : about1.ripe theMethod args0 below0 = true := by decide +kernel
theorem w_running : about1.status = .running := rfl
set_option maxRecDepth 65536 in
theorem w_room : about1.hasRoom e0.platform room_1 = true :=
  launch0.hasRoom_least _ room_1 (by decide +kernel) (by decide +kernel) (by decide +kernel) (by decide +kernel) (by decide +kernel) (by decide +kernel)
theorem allAtoms_all (ts : List Jvm.Cond) (a : Array Jvm.Value) (st : Jvm.State) : (allAtoms ts).before a st = ts.all (fun c => c.before a st) := by
  induction ts with
  | nil => rfl
  | cons c t ih =>
    show (Jvm.Cond.and c (allAtoms t)).before a st = _
    rw [Jvm.Cond.before_and, ih, List.all_cons]
def words1 : List Jvm.Cond := Jvm.Cond.code x code maxLocals ret :: tables_1
/-- a 'code' word, met by the world's own term for the bytes: nothing is compared byte by byte -/
theorem code_word {y : MethodName} {bytes : ByteArray} {mx : Nat} {rt : Option FieldType} {a : Array Value} {s : State} {m : MethodId} {meth : Method} {c : Code} (h1 : s.methodNamed? y = some m) (h2 : s.vm.method? m = some meth) (h3 : meth.code = some c) (h4 : c.code = bytes)
    (h5 : (c.maxLocals == mx && c.exceptionTable.isEmpty && decide (c.maxStack ≤ mostOperands) && decide (meth.sig.returnType = rt) && !meth.locks && decide (parseMethodDescriptor y.desc = some meth.sig)) = true) : (Jvm.Cond.code y bytes mx rt).before a s = true := by
  simp only [Bool.and_eq_true, beq_iff_eq, Bool.not_eq_true', decide_eq_true_eq] at h5
  obtain ⟨⟨⟨⟨⟨g1, g2⟩, g3⟩, g4⟩, g5⟩, g6⟩ := h5
  simp [Cond.before, Cond.holds, Cond.value, h1, h2, h3, h4, g1, g2, g3, g4, g5, g6]
def isCode : Jvm.Cond → Bool
  | .code _ _ _ _ => true
  | _ => false
theorem all_split {L : List Jvm.Cond} {P : Jvm.Cond → Bool} (h1 : L.all (fun c => isCode c || P c) = true) (h2 : ∀ c ∈ L.filter isCode, P c = true) : L.all P = true := by
  refine List.all_eq_true.mpr fun c hc => ?_
  have h := List.all_eq_true.mp h1 c hc
  rcases Bool.eq_false_or_eq_true (isCode c) with hi | hi
  · exact h2 c (List.mem_filter.mpr ⟨hc, hi⟩)
  · simpa [hi] using h
set_option maxRecDepth 65536 in
theorem w_c0 : (Jvm.Cond.code x code maxLocals ret).before args0 about1 = true := code_word (m := ⟨1, 1⟩) (meth := k1m1) (c := k1c1) (by decide +kernel) rfl rfl rfl (by decide +kernel)
set_option maxRecDepth 65536 in
theorem w_c1 : (Jvm.Cond.code ({ cls := "com/example/larch/larch/model/RenewalLimit", name := "forPeriods", desc := "(I)Lcom/example/larch/larch/model/RenewalLimit;" } : Jvm.MethodName) prog_18_method_3_code (1 : Nat) (Option.some (Jvm.ClassFile.FieldType.object "com/example/larch/larch/model/RenewalLimit"))).before args0 about1 = true := code_word (m := ⟨2, 1⟩) (meth := k2m1) (c := k2c1) (by decide +kernel) rfl rfl rfl (by decide +kernel)
set_option maxRecDepth 65536 in
theorem w_c2 : (Jvm.Cond.code ({ cls := "java/lang/Integer", name := "valueOf", desc := "(I)Ljava/lang/Integer;" } : Jvm.MethodName) jdk_33_method_22_code (1 : Nat) (Option.some (Jvm.ClassFile.FieldType.object "java/lang/Integer"))).before args0 about1 = true := code_word (m := ⟨8, 0⟩) (meth := k8m0) (c := k8c0) (by decide +kernel) rfl rfl rfl (by decide +kernel)
set_option maxRecDepth 65536 in
theorem w_c3 : (Jvm.Cond.code ({ cls := "com/example/larch/larch/model/RenewalLimit", name := "<init>", desc := "(Ljava/time/LocalDate;Ljava/lang/Integer;)V" } : Jvm.MethodName) prog_18_method_1_code (3 : Nat) (Option.none : Option Jvm.ClassFile.FieldType)).before args0 about1 = true := code_word (m := ⟨2, 0⟩) (meth := k2m0) (c := k2c0) (by decide +kernel) rfl rfl rfl (by decide +kernel)
set_option maxRecDepth 65536 in
theorem w_c4 : (Jvm.Cond.code ({ cls := "java/lang/Object", name := "<init>", desc := "()V" } : Jvm.MethodName) object_method_1_code (1 : Nat) (Option.none : Option Jvm.ClassFile.FieldType)).before args0 about1 = true := code_word (m := ⟨0, 0⟩) (meth := k0m0) (c := k0c0) (by decide +kernel) rfl rfl rfl (by decide +kernel)
set_option maxRecDepth 65536 in
theorem w_c5 : (Jvm.Cond.code ({ cls := "com/example/larch/larch/model/RenewalLimit", name := "remainingPeriods", desc := "()Ljava/lang/Integer;" } : Jvm.MethodName) prog_18_method_5_code (1 : Nat) (Option.some (Jvm.ClassFile.FieldType.object "java/lang/Integer"))).before args0 about1 = true := code_word (m := ⟨2, 3⟩) (meth := k2m3) (c := k2c3) (by decide +kernel) rfl rfl rfl (by decide +kernel)
set_option maxRecDepth 65536 in
theorem w_c6 : (Jvm.Cond.code ({ cls := "java/lang/Integer", name := "intValue", desc := "()I" } : Jvm.MethodName) jdk_33_method_27_code (1 : Nat) (Option.some Jvm.ClassFile.FieldType.int)).before args0 about1 = true := code_word (m := ⟨8, 2⟩) (meth := k8m2) (c := k8c2) (by decide +kernel) rfl rfl rfl (by decide +kernel)
set_option maxRecDepth 65536 in
theorem w_c7 : (Jvm.Cond.code ({ cls := "com/example/larch/larch/model/RenewalLimit", name := "lastChargeDay", desc := "()Ljava/time/LocalDate;" } : Jvm.MethodName) prog_18_method_4_code (1 : Nat) (Option.some (Jvm.ClassFile.FieldType.object "java/time/LocalDate"))).before args0 about1 = true := code_word (m := ⟨2, 2⟩) (meth := k2m2) (c := k2c2) (by decide +kernel) rfl rfl rfl (by decide +kernel)
set_option maxRecDepth 65536 in
theorem w_c8 : (Jvm.Cond.code ({ cls := "java/lang/Integer", name := "<init>", desc := "(I)V" } : Jvm.MethodName) jdk_33_method_23_code (2 : Nat) (Option.none : Option Jvm.ClassFile.FieldType)).before args0 about1 = true := code_word (m := ⟨8, 1⟩) (meth := k8m1) (c := k8c1) (by decide +kernel) rfl rfl rfl (by decide +kernel)
set_option maxRecDepth 65536 in
theorem w_c9 : (Jvm.Cond.code ({ cls := "java/lang/Number", name := "<init>", desc := "()V" } : Jvm.MethodName) jdk_18_method_1_code (1 : Nat) (Option.none : Option Jvm.ClassFile.FieldType)).before args0 about1 = true := code_word (m := ⟨4, 0⟩) (meth := k4m0) (c := k4c0) (by decide +kernel) rfl rfl rfl (by decide +kernel)
def codes1 : List Jvm.Cond := [Jvm.Cond.code x code maxLocals ret, Jvm.Cond.code ({ cls := "com/example/larch/larch/model/RenewalLimit", name := "forPeriods", desc := "(I)Lcom/example/larch/larch/model/RenewalLimit;" } : Jvm.MethodName) prog_18_method_3_code (1 : Nat) (Option.some (Jvm.ClassFile.FieldType.object "com/example/larch/larch/model/RenewalLimit")), Jvm.Cond.code ({ cls := "java/lang/Integer", name := "valueOf", desc := "(I)Ljava/lang/Integer;" } : Jvm.MethodName) jdk_33_method_22_code (1 : Nat) (Option.some (Jvm.ClassFile.FieldType.object "java/lang/Integer")), Jvm.Cond.code ({ cls := "com/example/larch/larch/model/RenewalLimit", name := "<init>", desc := "(Ljava/time/LocalDate;Ljava/lang/Integer;)V" } : Jvm.MethodName) prog_18_method_1_code (3 : Nat) (Option.none : Option Jvm.ClassFile.FieldType), Jvm.Cond.code ({ cls := "java/lang/Object", name := "<init>", desc := "()V" } : Jvm.MethodName) object_method_1_code (1 : Nat) (Option.none : Option Jvm.ClassFile.FieldType), Jvm.Cond.code ({ cls := "com/example/larch/larch/model/RenewalLimit", name := "remainingPeriods", desc := "()Ljava/lang/Integer;" } : Jvm.MethodName) prog_18_method_5_code (1 : Nat) (Option.some (Jvm.ClassFile.FieldType.object "java/lang/Integer")), Jvm.Cond.code ({ cls := "java/lang/Integer", name := "intValue", desc := "()I" } : Jvm.MethodName) jdk_33_method_27_code (1 : Nat) (Option.some Jvm.ClassFile.FieldType.int), Jvm.Cond.code ({ cls := "com/example/larch/larch/model/RenewalLimit", name := "lastChargeDay", desc := "()Ljava/time/LocalDate;" } : Jvm.MethodName) prog_18_method_4_code (1 : Nat) (Option.some (Jvm.ClassFile.FieldType.object "java/time/LocalDate")), Jvm.Cond.code ({ cls := "java/lang/Integer", name := "<init>", desc := "(I)V" } : Jvm.MethodName) jdk_33_method_23_code (2 : Nat) (Option.none : Option Jvm.ClassFile.FieldType), Jvm.Cond.code ({ cls := "java/lang/Number", name := "<init>", desc := "()V" } : Jvm.MethodName) jdk_18_method_1_code (1 : Nat) (Option.none : Option Jvm.ClassFile.FieldType)]
set_option maxRecDepth 65536 in
theorem codes_eq : words1.filter isCode = codes1 := rfl
theorem w_codes : ∀ c ∈ words1.filter isCode, c.before args0 about1 = true := by
  rw [codes_eq]
  intro c hc
  simp only [codes1, List.mem_cons, List.not_mem_nil, or_false] at hc
  rcases hc with rfl | rfl | rfl | rfl | rfl | rfl | rfl | rfl | rfl | rfl
  · exact w_c0
  · exact w_c1
  · exact w_c2
  · exact w_c3
  · exact w_c4
  · exact w_c5
  · exact w_c6
  · exact w_c7
  · exact w_c8
  · exact w_c9
set_option maxRecDepth 65536 in
theorem w_t1 : (words1.take 24).all (fun c => isCode c || c.before args0 about1) = true := by decide +kernel
set_option maxRecDepth 65536 in
theorem w_t2 : ((words1.drop 24).take 24).all (fun c => isCode c || c.before args0 about1) = true := by decide +kernel
set_option maxRecDepth 65536 in
theorem w_t3 : ((words1.drop 24).drop 24).all (fun c => isCode c || c.before args0 about1) = true := by decide +kernel
theorem w_tables : (allAtoms (Jvm.Cond.code x code maxLocals ret :: tables_1)).before args0 about1 = true := by
  rw [allAtoms_all]
  show words1.all (fun c => c.before args0 about1) = true
  refine all_split ?_ w_codes
  rw [← List.take_append_drop 24 words1, List.all_append, w_t1, ← List.take_append_drop 24 (words1.drop 24), List.all_append, w_t2, w_t3]
  rfl
set_option maxRecDepth 65536 in
theorem w_rest : rest_1_c.before args0 about1 = true := by decide +kernel
set_option maxRecDepth 65536 in
theorem w_case : (Jvm.Cond.and given_1 narrow_1).before args0 about1 = true := by decide +kernel
theorem w_applies : (headSpec (Jvm.Cond.code x code maxLocals ret :: tables_1) room_1).applies x e0.platform about1 = true :=
  (Spec.applies_iff w_frames).mpr ⟨w_running, w_runnable, w_alone, w_named, w_hears, w_ripe, w_room, w_tables⟩
theorem atStart : AtStart classFile x code maxLocals ret World_1 tables_1 room_1 Calls_1 rest_1 Pre_1 launch0 p0 e0 about1 theMethod args0 below0 :=
  ⟨lists_1, trivial, launch0.admits_env _ _ _, launch0.least_env, fairChoices_fair.cas, fairChoices_fair.clock, w_frames, w_args, w_heap, w_applies, trivial, w_rest, w_case⟩
end start1
theorem witness_1 : WitnessClaimed_1 := ⟨start1.p0, start1.e0, start1.about1, start1.theMethod, start1.args0, start1.below0, start1.atStart⟩
end Jvm.Pilot.@@N@@
