import JvmDerived
import JvmDerived.Pilot.@@N@@Statement
import JvmDerived.Pilot.@@N@@Code
set_option linter.unusedVariables false
set_option linter.unusedSimpArgs false
namespace Jvm.RoadKit
open Sem ClassFile Op Lib Jvm.Stand Jvm.Free Jvm.LawKit
section New
variable {p : Program} {l : Launch} {e : Env} {R : Room} {s : State} {m : MethodId} {args : Array Value} {below : List Frame} {meth : Method} {c : Code} {T : State} {locs : List Loc} {cells slots : Nat}
theorem retI (X : Stand p l e R s m args below meth c T locs cells slots) (hx : p.tables.exec = Jvm.exec) {pc : Nat} {Ls : Array Slot} {z : Int32} {rest : List Value} (hret : meth.sig.returnType = some .int) (hd : decode c.code pc = .ok (.ireturn, 1)) {fs : List Frame}
    (hl : ∀ (f : JFrame) (acts : List Action), f.method = m → f.locked = none → f.entered = [] → (doReturn e (T.setTop f) acts (some (.int z))).1 = T.setFrames fs) : Steps p.tables e below (T.setTop (mkF m pc Ls (.int z :: rest))) (T.setFrames fs) := by
  have hm' : T.vm.method? m = some meth := X.method'
  have hn : narrow .int (.int z) = .int z := rfl
  show Steps p.tables e below (T.setTop { method := m, pc := pc, locals := Ls, stack := _ :: rest, locked := none }) _
  jvm_step X.here [X.here.top, hx, hd, hm', hret, hn]
  first | (intro acts; rw [hl _ acts rfl rfl rfl]) | rw [hl _ _ rfl rfl rfl]
  exact Steps.refl _
end New
end Jvm.RoadKit
namespace Jvm.Pilot.@@N@@
open Jvm Jvm.ClassFile Sem Op Lib Jvm.Free Jvm.Stand Jvm.LawKit Jvm.RoadKit Bundle Jvm.Pilot.@@N@@.Jvm.D
theorem own_eqI {args : Array Value} {s : State} {t : Term} {k : Int32} (h : (Jvm.Cond.eq t (.int k)).value args s none s [] = some true) : t.eval args s none [] s = some (.int k) := by
  obtain ⟨x, y, hx, hy, -, k2⟩ := cmp_v (Or.inl h)
  obtain rfl : y = .int k := (Option.some.inj ((Term.int_eval k).symm.trans hy)).symm
  obtain ⟨z, rfl⟩ := k2
  have := gotT (Cond.eq_ints hx (Term.int_eval k)) h
  rw [hx, this]
def Q0 (n0 : Nat) (v : Option Value) (L : List Loc) : Prop := v = some (.int 1) ∧ Fr n0 L
def AtC (Z : State) (a : Addr) (ty : FieldType) (j : Int32) (w : Addr) : Prop := ∃ cl : Cell, Arr Z Z.heap a cl ty ∧ ¬ (j < 0 ∨ cl.slots.size ≤ j.toNatClampNeg) ∧ cl.slots[j.toNatClampNeg]? = some (.ref w)
theorem own_box {Z : State} {a : Addr} {c : Cell} {K d : String} {z : Int32} {val : Int32 → Value} (B : Bxs Z a c K d z val) {j : Int32} (h0 : ¬ j < 0) (h1 : j < z) : ∃ w, AtC Z a (.object K) j w ∧ Exa Z Z.heap w K ∧ Fld Z Z.heap w K "value" d (val j) := by
  obtain ⟨A, S, -, F⟩ := B
  have hin := inb_of S ⟨h0, h1⟩
  obtain ⟨w, hw, E, Fl⟩ := F j hin
  exact ⟨w, ⟨c, A, hin, hw⟩, E, Fl⟩
theorem own_len {s : State} {args : Array Value} {t : Term} {a : Addr} {c : Cell} {z : Int32} (ev : t.eval args s none [] s = some (.ref a)) (fl : s.arrayAt? a = some c) (el : (Term.length t).eval args s none [] s = some (.int z)) : c.slots.size < 2 ^ 31 ∧ c.slots.size.toInt32 = z := by
  simp only [Term.eval, ev] at el
  by_cases q : c.slots.size < 2 ^ 31
  · simp [fl, q] at el; exact ⟨q, el⟩
  · simp [fl, q] at el
theorem own_bxs {Z : State} {args : Array Value} {C n dd : String} {F : Term} {a : Addr} {K d : String} {z : Int32} {val : Int32 → Value} (ev : (Term.static C n dd).eval args Z none [] Z = some (.ref a))
    (ha : (Jvm.Cond.arrayOf (.static C n dd) (.object K)).value args Z none Z [] = some true) (hl : (Jvm.Cond.eq (.length (.static C n dd)) (.int z)).value args Z none Z [] = some true) (hz : ¬ z < 0)
    (h : (Jvm.Cond.all (.static C n dd) (.and (.exactly (.elem (.static C n dd) (.index 0)) K) (.eq (.field (.elem (.static C n dd) (.index 0)) K "value" d) F))).value args Z none Z [] = some true)
    (hv : ∀ (X : Term) (j : Int32), ¬ j < 0 → (Jvm.Cond.eq X F).value args Z none Z [j.toNatClampNeg] = some true → X.eval args Z none [j.toNatClampNeg] Z = some (val j)) : ∃ c, Bxs Z a c K d z val := by
  obtain ⟨c, A⟩ := Arr.start ev ha
  have hq := own_len ev (A.fin (Vm.Alike.refl _)) (own_eqI hl)
  exact ⟨c, Bxs.start (fun _ => ev) A hq.1 hq.2 hz h hv⟩
theorem own_arr0 {s : State} {args : Array Value} {t : Term} {a : Addr} {K : String} (hf : Fit s) (ev : t.eval args s none [] s = some (.ref a)) (ha : (Jvm.Cond.arrayOf t (.object K)).value args s none s [] = some true) (hl : (Jvm.Cond.eq (.length t) (.int 0)).value args s none s [] = some true) :
    ∃ k, Arv s s.heap a k (.object K) (0 : Int32) [] .null := by
  obtain ⟨c, A⟩ := Arr.start ev ha
  have hq := own_len ev (A.fin (Vm.Alike.refl _)) (own_eqI hl)
  exact ⟨_, Arv.start hf A hq.1 hq.2 (by decide) rfl trivial⟩
theorem own_eqR {s : State} {args : Array Value} {t u : Term} {w : Addr} (hu : u.eval args s none [] s = some (.ref w)) (h : (Jvm.Cond.eq t u).value args s none s [] = some true) : t.eval args s none [] s = some (.ref w) := by
  obtain ⟨x, y, hx, hy, -, k2⟩ := cmp_v (Or.inl h)
  obtain rfl : y = .ref w := (Option.some.inj (hu.symm.trans hy)).symm
  have := gotT (eq_R hx hu k2.2 rfl) h
  rw [hx, this]
theorem own_idx {Z : State} {args : Array Value} {j : Int32} (hj : ¬ j < 0) : (Term.sub (.index 0) (.int 128)).eval args Z none [j.toNatClampNeg] Z = some (.int (j - 128)) := by
  have e := idx_at (args := args) (s := Z) (first := Z) (o := none) hj
  simp [Term.eval, e]
  exact (back32 hj).1
set_option maxRecDepth 65536
set_option maxHeartbeats 40000000
abbrev HW (a0 : Array Value) (Z : State) : Prop := ∀ d ∈ tables_1, d.before a0 Z = true
abbrev s0 : String := "BILLING_DEMAND_DAYS"
abbrev s1 : String := "COMPACT_STRINGS"
abbrev s2 : String := "DEFAULTCAPACITY_EMPTY_ELEMENTDATA"
abbrev s3 : String := "DISTRIBUTION_ACCESS_CHARGES"
abbrev s4 : String := "EMPTY_LIST"
abbrev s5 : String := "FIXTURE_DAYS"
abbrev s6 : String := "GAS_INDEXED_ENERGY"
abbrev s7 : String := "HIGHEST_HOUR_ENERGY"
abbrev s8 : String := "ISO_COSTS"
abbrev s9 : String := "Lcom/example/tarcal/tarcal/schedules/Basis;"
abbrev s10 : String := "Ljava/lang/Object;"
abbrev s11 : String := "Ljava/lang/String;"
abbrev s12 : String := "Ljava/math/BigDecimal;"
abbrev s13 : String := "Ljava/time/LocalDate;"
abbrev s14 : String := "Ljava/util/ImmutableCollections$ListN;"
abbrev s15 : String := "Ljava/util/List;"
abbrev s16 : String := "Ljava/util/Optional;"
abbrev s17 : String := "METERED_DEMAND_DAYS"
abbrev s18 : String := "OFF_PEAK_ENERGY"
abbrev s19 : String := "ON_PEAK_ENERGY"
abbrev s20 : String := "POOL_PRICED_ENERGY"
abbrev s21 : String := "[Ljava/lang/Object;"
abbrev s22 : String := "allowNulls"
abbrev s23 : String := "arraycopy"
abbrev s24 : String := "chargeFor"
abbrev s25 : String := "coderFromArrayLen"
abbrev s26 : String := "com/example/tarcal/tarcal/schedules/Basis"
abbrev s27 : String := "com/example/tarcal/tarcal/schedules/Charge"
abbrev s28 : String := "com/example/tarcal/tarcal/schedules/ChargeWithPricesPinLaw"
abbrev s29 : String := "com/example/tarcal/tarcal/schedules/DatedPrice"
abbrev s30 : String := "compress"
abbrev s31 : String := "connection"
abbrev s32 : String := "elementData"
abbrev s33 : String := "elements"
abbrev s34 : String := "firstDay"
abbrev s35 : String := "getClass"
abbrev s36 : String := "java/lang/Math"
abbrev s37 : String := "java/lang/Object"
abbrev s38 : String := "java/lang/Record"
abbrev s39 : String := "java/lang/String"
abbrev s40 : String := "java/lang/StringUTF16"
abbrev s41 : String := "java/lang/System"
abbrev s42 : String := "java/util/AbstractCollection"
abbrev s43 : String := "java/util/AbstractList"
abbrev s44 : String := "java/util/ArrayList"
abbrev s45 : String := "java/util/Arrays"
abbrev s46 : String := "java/util/Collection"
abbrev s47 : String := "java/util/ImmutableCollections"
abbrev s48 : String := "java/util/ImmutableCollections$AbstractImmutableCollection"
abbrev s49 : String := "java/util/ImmutableCollections$AbstractImmutableList"
abbrev s50 : String := "java/util/ImmutableCollections$List12"
abbrev s51 : String := "java/util/ImmutableCollections$ListN"
abbrev s52 : String := "java/util/List"
abbrev s53 : String := "java/util/Objects"
abbrev s54 : String := "java/util/Optional"
abbrev s55 : String := "listCopy"
abbrev s56 : String := "listFromArray"
abbrev s57 : String := "modCount"
abbrev s58 : String := "requireNonNull"
abbrev s59 : String := "withPrices"
abbrev jv (x : Int64) : Slot := .val (.long x)
abbrev uu : Slot := .unset
abbrev sc : Slot := .second
abbrev SS (p : Program) (e : Env) (b : List Frame) (T : State) (m : MethodId) (pc : Nat) (L : Array Slot) (S : List Value) (t : State) : Prop := Steps p.tables e b (T.setTop (mkF m pc L S)) t
abbrev mn1 : MethodName := (⟨"com/example/tarcal/tarcal/schedules/DatedPrice", "<init>", "(Ljava/math/BigDecimal;Ljava/time/LocalDate;Ljava/util/Optional;Ljava/util/Optional;)V"⟩ : MethodName)
abbrev mn2 : MethodName := (⟨"java/lang/Record", "<init>", "()V"⟩ : MethodName)
abbrev mn3 : MethodName := (⟨"java/lang/Object", "<init>", "()V"⟩ : MethodName)
abbrev mn4 : MethodName := (⟨"java/lang/String", "<init>", "([C)V"⟩ : MethodName)
abbrev mn5 : MethodName := (⟨"java/lang/String", "<init>", "([CIILjava/lang/Void;)V"⟩ : MethodName)
abbrev mn6 : MethodName := (⟨"java/lang/StringUTF16", "compress", "([CII)[B"⟩ : MethodName)
abbrev mn7 : MethodName := (⟨"java/lang/StringUTF16", "compress", "([CI[BII)I"⟩ : MethodName)
abbrev mn8 : MethodName := (⟨"java/lang/StringUTF16", "coderFromArrayLen", "([BI)B"⟩ : MethodName)
abbrev mn9 : MethodName := (⟨"com/example/tarcal/tarcal/schedules/ChargeWithPricesPinLaw", "build", "(ILcom/example/tarcal/tarcal/schedules/DatedPrice;Lcom/example/tarcal/tarcal/schedules/DatedPrice;)Ljava/util/ArrayList;"⟩ : MethodName)
abbrev mn10 : MethodName := (⟨"java/util/ArrayList", "<init>", "()V"⟩ : MethodName)
abbrev mn11 : MethodName := (⟨"java/util/AbstractList", "<init>", "()V"⟩ : MethodName)
abbrev mn12 : MethodName := (⟨"java/util/AbstractCollection", "<init>", "()V"⟩ : MethodName)
abbrev mn13 : MethodName := (⟨"com/example/tarcal/tarcal/schedules/ChargeWithPricesPinLaw", "pick", "(IILcom/example/tarcal/tarcal/schedules/DatedPrice;Lcom/example/tarcal/tarcal/schedules/DatedPrice;)Lcom/example/tarcal/tarcal/schedules/DatedPrice;"⟩ : MethodName)
abbrev mn14 : MethodName := (⟨"java/util/ArrayList", "add", "(Ljava/lang/Object;)Z"⟩ : MethodName)
abbrev mn15 : MethodName := (⟨"java/util/ArrayList", "add", "(Ljava/lang/Object;[Ljava/lang/Object;I)V"⟩ : MethodName)
abbrev mn16 : MethodName := (⟨"java/util/ArrayList", "grow", "()[Ljava/lang/Object;"⟩ : MethodName)
abbrev mn17 : MethodName := (⟨"java/util/ArrayList", "grow", "(I)[Ljava/lang/Object;"⟩ : MethodName)
abbrev mn18 : MethodName := (⟨"java/lang/Math", "max", "(II)I"⟩ : MethodName)
abbrev mn19 : MethodName := (⟨"com/example/tarcal/tarcal/schedules/Charge", "<init>", "(Ljava/lang/String;Ljava/lang/String;Lcom/example/tarcal/tarcal/schedules/Basis;Ljava/util/Optional;Ljava/util/Optional;Ljava/util/List;)V"⟩ : MethodName)
abbrev mn20 : MethodName := (⟨"java/util/List", "copyOf", "(Ljava/util/Collection;)Ljava/util/List;"⟩ : MethodName)
abbrev mn21 : MethodName := (⟨"java/util/ImmutableCollections", "listCopy", "(Ljava/util/Collection;)Ljava/util/List;"⟩ : MethodName)
abbrev mn22 : MethodName := (⟨"java/util/ArrayList", "isEmpty", "()Z"⟩ : MethodName)
abbrev mn23 : MethodName := (⟨"java/util/ArrayList", "toArray", "()[Ljava/lang/Object;"⟩ : MethodName)
abbrev mn24 : MethodName := (⟨"java/util/Arrays", "copyOf", "([Ljava/lang/Object;I)[Ljava/lang/Object;"⟩ : MethodName)
abbrev mn25 : MethodName := (⟨"java/util/Arrays", "copyOf", "([Ljava/lang/Object;ILjava/lang/Class;)[Ljava/lang/Object;"⟩ : MethodName)
abbrev mn26 : MethodName := (⟨"java/lang/Math", "min", "(II)I"⟩ : MethodName)
abbrev mn27 : MethodName := (⟨"java/util/List", "of", "([Ljava/lang/Object;)Ljava/util/List;"⟩ : MethodName)
abbrev mn28 : MethodName := (⟨"java/util/ImmutableCollections$List12", "<init>", "(Ljava/lang/Object;)V"⟩ : MethodName)
abbrev mn29 : MethodName := (⟨"java/util/ImmutableCollections$AbstractImmutableList", "<init>", "()V"⟩ : MethodName)
abbrev mn30 : MethodName := (⟨"java/util/ImmutableCollections$AbstractImmutableCollection", "<init>", "()V"⟩ : MethodName)
abbrev mn31 : MethodName := (⟨"java/util/Objects", "requireNonNull", "(Ljava/lang/Object;)Ljava/lang/Object;"⟩ : MethodName)
abbrev mn32 : MethodName := (⟨"com/example/tarcal/tarcal/schedules/Charge", "withPrices", "(Ljava/util/List;)Lcom/example/tarcal/tarcal/schedules/Charge;"⟩ : MethodName)
abbrev mn33 : MethodName := (⟨"java/util/List", "of", "()Ljava/util/List;"⟩ : MethodName)
abbrev mn34 : MethodName := (⟨"com/example/tarcal/tarcal/schedules/Charge", "id", "()Ljava/lang/String;"⟩ : MethodName)
abbrev mn35 : MethodName := (⟨"java/lang/String", "equals", "(Ljava/lang/Object;)Z"⟩ : MethodName)
abbrev mn36 : MethodName := (⟨"com/example/tarcal/tarcal/schedules/Charge", "name", "()Ljava/lang/String;"⟩ : MethodName)
abbrev mn37 : MethodName := (⟨"com/example/tarcal/tarcal/schedules/Charge", "basis", "()Lcom/example/tarcal/tarcal/schedules/Basis;"⟩ : MethodName)
abbrev mn38 : MethodName := (⟨"com/example/tarcal/tarcal/schedules/Charge", "onlyFor", "()Ljava/util/Optional;"⟩ : MethodName)
abbrev mn39 : MethodName := (⟨"com/example/tarcal/tarcal/schedules/Charge", "chargeFor", "()Ljava/util/Optional;"⟩ : MethodName)
abbrev mn40 : MethodName := (⟨"com/example/tarcal/tarcal/schedules/Charge", "prices", "()Ljava/util/List;"⟩ : MethodName)
abbrev mn41 : MethodName := (⟨"com/example/tarcal/tarcal/schedules/ChargeWithPricesPinLaw", "matches", "(Ljava/util/List;ILcom/example/tarcal/tarcal/schedules/DatedPrice;Lcom/example/tarcal/tarcal/schedules/DatedPrice;)Z"⟩ : MethodName)
abbrev mn42 : MethodName := (⟨"java/util/ImmutableCollections$ListN", "size", "()I"⟩ : MethodName)
abbrev mn43 : MethodName := (⟨"java/util/ImmutableCollections$List12", "size", "()I"⟩ : MethodName)
abbrev mn44 : MethodName := (⟨"java/util/ImmutableCollections$List12", "get", "(I)Ljava/lang/Object;"⟩ : MethodName)
abbrev mn45 : MethodName := (⟨"java/util/ImmutableCollections", "listFromArray", "([Ljava/lang/Object;)Ljava/util/List;"⟩ : MethodName)
abbrev mn46 : MethodName := (⟨"java/util/ImmutableCollections$ListN", "<init>", "([Ljava/lang/Object;Z)V"⟩ : MethodName)
abbrev mn47 : MethodName := (⟨"java/util/ImmutableCollections$ListN", "get", "(I)Ljava/lang/Object;"⟩ : MethodName)
abbrev mn48 : MethodName := (⟨"java/util/ImmutableCollections$List12", "<init>", "(Ljava/lang/Object;Ljava/lang/Object;)V"⟩ : MethodName)
def MF (l : Launch) (Z : State) (y : MethodName) (bytes : ByteArray) (maxL : Nat) (ret : Option FieldType) (R : Room) (A : Array Value) (h0 : Heap) (Q : Option Value → Heap → List Loc → Prop) : Prop :=
  MetFree l y (head1 [Jvm.Cond.code y bytes maxL ret] R) (fun a U => a = A ∧ Z.Warmed39 U.vm ∧ U.heap = h0) (fun _ _ _ _ _ => True) (fun _ U o U' => ∃ v L, o = .returned v ∧ Q v U'.heap L ∧ FrameEnd U o U' L R.cells R.slots)
def MW (l : Launch) (Z : State) (y : MethodName) (bytes : ByteArray) (maxL : Nat) (ret : Option FieldType) (hs : List (Nat × Nat × Nat × Nat)) (R : Room) (A : Array Value) (h0 : Heap) (Q : Option Value → Heap → List Loc → Prop) : Prop :=
  MetFree l y (head1 [Jvm.Cond.codeWith y bytes maxL ret hs] R) (fun a U => a = A ∧ Z.Warmed39 U.vm ∧ U.heap = h0) (fun _ _ _ _ _ => True) (fun _ U o U' => ∃ v L, o = .returned v ∧ Q v U'.heap L ∧ FrameEnd U o U' L R.cells R.slots)
abbrev QR (n0 : Nat) (h0 : Heap) (r : Option Value) (v : Option Value) (h : Heap) (L : List Loc) : Prop := v = r ∧ Fr n0 L ∧ h = h0
abbrev RT (T : State) (e : Env) (m : MethodId) (v : Option Value) (fs : List Frame) : Prop := ∀ (f : JFrame) (acts : List Action), f.method = m → f.locked = none → f.entered = [] → (doReturn e (T.setTop f) acts v).1 = T.setFrames fs
abbrev EN (p : Program) (l : Launch) (e : Env) (R : Room) (s : State) (m : MethodId) (A : Array Value) (below : List Frame) (meth : Method) (c : Code) (s₁ : State) (L0 : Array Slot) (ret : Option FieldType) (Q : Option Value → Heap → List Loc → Prop) : Prop :=
  ∃ v T h L k j, Stand p l e R s m A below meth c T L k j ∧ T.heap = h ∧ (k ≤ R.cells ∧ j ≤ R.slots) ∧ (ret = none → v = none) ∧ (∀ fs, RT T e m v fs → Steps p.tables e below (s₁.setTop (mkF m 0 L0 [])) (T.setFrames fs)) ∧ Q v h L
theorem hst0 {s s₁ : State} {fs : List Frame} {h0 : Heap} (h : s₁ = s.setFrames fs) (hh : s.heap = h0) : s₁.heap = h0 := by subst h; exact hh
theorem own_start {l : Launch} {Z : State} {y : MethodName} {bytes : ByteArray} {maxL : Nat} {ret : Option FieldType} {R : Room} {A : Array Value} {h0 : Heap} {Q : Option Value → Heap → List Loc → Prop} {L0 : Array Slot}
    (hp : plainFor y = true) (hef : ∀ m, entryFrame m A maxL = mkF m 0 L0 [])
    (body : ∀ p e s m below meth c s₁, Z.Warmed39 s.vm → p.tables.exec = Jvm.exec → c.code = bytes → c.maxLocals = maxL → s.vm.findClass y.cls = some m.cls → meth.name = y.name → meth.sig.returnType = ret → Stand p l e R s m A below meth c s₁ [] 0 0 → s₁.heap = h0 → EN p l e R s m A below meth c s₁ L0 ret Q) :
    MF l Z y bytes maxL ret R A h0 Q := by
  refine MetFree.of_bodySF hp hisR ?_
  intro p e s m args below meth c s₁ Bd hml0 hP hK
  obtain ⟨rfl, hZ, hh⟩ := hP
  obtain ⟨v, T, h, L, k, j, X, rfl, hkj, hv, hst, hQ⟩ := body p e s m below meth c s₁ hZ Bd.exec Bd.bytes hml0 (findClass_of_methodNamed Bd.named) (name_of_methodNamed Bd.named Bd.method).1 Bd.returns (Stand.of_body Bd) (hst0 Bd.state hh)
  obtain ⟨fs, hr, hrun, hended, hW, hsame⟩ := X.leave (v := v) (fun h => hv (Bd.returns ▸ h))
  exact ⟨_, _, castTop (hef m) (hst fs hr), hrun, hended, _, _, rfl, hQ, ⟨_, rfl⟩, hW, hsame.mono hkj.1 hkj.2⟩
theorem own_startW {l : Launch} {Z : State} {y : MethodName} {bytes : ByteArray} {maxL : Nat} {ret : Option FieldType} {hs : List (Nat × Nat × Nat × Nat)} {R : Room} {A : Array Value} {h0 : Heap} {Q : Option Value → Heap → List Loc → Prop} {L0 : Array Slot}
    (hp : plainFor y = true) (hef : ∀ m, entryFrame m A maxL = mkF m 0 L0 [])
    (body : ∀ p e s m below meth c s₁, Z.Warmed39 s.vm → p.tables.exec = Jvm.exec → c.code = bytes → c.maxLocals = maxL → s.vm.findClass y.cls = some m.cls → meth.name = y.name → meth.sig.returnType = ret → Stand p l e R s m A below meth c s₁ [] 0 0 → s₁.heap = h0 → EN p l e R s m A below meth c s₁ L0 ret Q) :
    MW l Z y bytes maxL ret hs R A h0 Q := by
  refine MetFree.of_bodySF hp hisWith ?_
  intro p e s m args below meth c s₁ Bd hml0 hP hK
  obtain ⟨rfl, hZ, hh⟩ := hP
  obtain ⟨v, T, h, L, k, j, X, rfl, hkj, hv, hst, hQ⟩ := body p e s m below meth c s₁ hZ Bd.exec Bd.bytes hml0 (findClass_of_methodNamed Bd.named) (name_of_methodNamed Bd.named Bd.method).1 Bd.returns (Stand.of_body Bd) (hst0 Bd.state hh)
  obtain ⟨fs, hr, hrun, hended, hW, hsame⟩ := X.leave (v := v) (fun h => hv (Bd.returns ▸ h))
  exact ⟨_, _, castTop (hef m) (hst fs hr), hrun, hended, _, _, rfl, hQ, ⟨_, rfl⟩, hW, hsame.mono hkj.1 hkj.2⟩
section Calls
variable {p : Program} {l : Launch} {e : Env} {R : Room} {s : State} {m : MethodId} {args : Array Value} {below : List Frame} {meth : Method} {c : Code} {T : State} {locs : List Loc} {cells slots : Nat} {Z : State} {a0 : Array Value} {y xi : MethodName} {own C : String} {index na maxL : Nat} {bytes : ByteArray} {ret : Option FieldType} {rm : Room} {A : Array Value} {h : Heap} {Q : Option Value → Heap → List Loc → Prop} {ml pc : Nat} {Ls : Array Slot}
abbrev B4 (a0 : Array Value) (Z : State) (d : Jvm.Cond) : Prop := d.before a0 Z = true
abbrev BT (a0 : Array Value) (Z : State) (d : Jvm.Cond) : Prop := d.before a0 Z = true ∧ (d.onTables && d.keepsFace) = true
abbrev NH (C : String) : Prop := C ≠ "java/lang/invoke/MethodHandle" ∧ C ≠ "java/lang/invoke/VarHandle"
abbrev AR (d : String) (na : Nat) : Prop := ∃ ps r, parseMethodDescriptor d = some ⟨ps, r⟩ ∧ ps.length = na
theorem own_ar {d : String} {na : Nat} (h : AR d na) {L : List Value} (hl : L.length = na) : ∀ sig, parseMethodDescriptor d = some sig → L.length = sig.parameters.length := by
  obtain ⟨ps, r, h1, rfl⟩ := h; exact lenOf h1 hl
def CI (a0 : Array Value) (Z : State) (own : String) (index : Nat) (xi y : MethodName) (C : String) (na : Nat) (k : Jvm.Cond) : Prop :=
  B4 a0 Z (.methodLink own index xi) ∧ B4 a0 Z (.declares xi) ∧ BT a0 Z (.interfaceMethod xi.cls xi.cls xi.name xi.desc) ∧ B4 a0 Z (.selects C xi y) ∧ B4 a0 Z (.instanceMethod y) ∧ B4 a0 Z (.publicMethod y) ∧ B4 a0 Z (.unhidden C xi.name xi.desc) ∧ B4 a0 Z (.castable C xi.cls) ∧ B4 a0 Z k ∧ B4 a0 Z (.initialized y.cls) ∧ NH xi.cls ∧ AR xi.desc na
def CV (a0 : Array Value) (Z : State) (own : String) (index : Nat) (xi y : MethodName) (C : String) (na : Nat) (k : Jvm.Cond) : Prop :=
  B4 a0 Z (.methodLink own index xi) ∧ B4 a0 Z (.declares xi) ∧ (∀ s : State, Z.Warmed39 s.vm → NotFace s xi) ∧ B4 a0 Z (.selects C xi y) ∧ B4 a0 Z (.instanceMethod y) ∧ B4 a0 Z k ∧ B4 a0 Z (.initialized y.cls) ∧ NH xi.cls ∧ AR xi.desc na
def CS (a0 : Array Value) (Z : State) (own : String) (index : Nat) (y : MethodName) (na : Nat) (k : Jvm.Cond) : Prop :=
  B4 a0 Z (.methodLink own index y) ∧ B4 a0 Z (.static y) ∧ B4 a0 Z k ∧ B4 a0 Z (.initialized y.cls) ∧ NH y.cls ∧ AR y.desc na
def CN (a0 : Array Value) (Z : State) (own : String) (index : Nat) (y : MethodName) (na : Nat) (k : Jvm.Cond) : Prop :=
  y.name = "<init>" ∧ B4 a0 Z (.methodLink own index y) ∧ B4 a0 Z (.instanceMethod y) ∧ B4 a0 Z k ∧ B4 a0 Z (.initialized y.cls) ∧ NH y.cls ∧ AR y.desc na
/-- what stands behind a call -/
abbrev AF (p : Program) (l : Launch) (e : Env) (R : Room) (s : State) (m : MethodId) (args : Array Value) (below : List Frame) (meth : Method) (c : Code) (T : State) (locs : List Loc) (cells slots : Nat) (pc len : Nat) (Ls : Array Slot) (S rest : List Value) (rm : Room) (Q : Option Value → Heap → List Loc → Prop) : Prop :=
  ∃ v T' L, Stand p l e R s m args below meth c T' (locs ++ L) (cells + rm.cells) (slots + rm.slots) ∧ Q v T'.heap L ∧ ∀ t, Steps p.tables e below (T'.setTop (mkF m (pc + len) Ls (v.toList ++ rest))) t → Steps p.tables e below (T.setTop (mkF m pc Ls S)) t
abbrev RM (W maxL cells slots : Nat) (rm R : Room) : Prop := rm.frames + 1 ≤ R.frames ∧ W + (maxL + 11) + rm.locals ≤ R.locals ∧ cells + rm.cells ≤ R.cells ∧ slots + rm.slots ≤ R.slots
abbrev cats (r : List Value) : Nat := (r.map fun v => v.category).sum
theorem own_cI (X : Stand p l e R s m args below meth c T locs cells slots) (hx : p.tables.exec = Jvm.exec) (hZ : Z.Warmed39 s.vm) (hown : s.vm.findClass own = some m.cls) (hml : c.maxLocals = ml)
    (w : CI a0 Z own index xi y C na (.code y bytes maxL ret)) (hM : MF l Z y bytes maxL ret rm A h Q) (hE : T.heap = h) {b : Addr} (E : Exa Z h b C) (pc : Nat) (Ls : Array Slot) (argsL rest : List Value) (W : Nat) {count : Nat}
    (hs : Ls.size = ml) (hd : decode c.code pc = .ok (.invokeinterface index count, 5)) (hr : RM W maxL cells slots rm R) (hn : argsL.length = na := by rfl) (hA : (Value.ref b :: argsL).toArray = A := by rfl) (hc : cats rest = W := by rfl) :
    AF p l e R s m args below meth c T locs cells slots pc 5 Ls (argsL.reverse ++ .ref b :: rest) rest rm Q := by
  obtain ⟨w1, w2, w3, w4, w5, w6, w7, w8, w9, w10, w11, w12⟩ := w
  obtain ⟨cq, kq, qa, qb, qc⟩ := isOf hZ hE E
  obtain ⟨v, _, ⟨T', L', k', n'⟩, -, X', ⟨Lc, hQ, hl, hy, hz⟩, st⟩ := X.interfaceBack hx hown (mvT hZ w1 rfl) (mvT hZ w2 rfl) (mvT hZ w3.1 w3.2) (mvT hZ w4 rfl) (mvT hZ w5 rfl) (mvT hZ w6 rfl) (mvT hZ w7 rfl) (mvT hZ w8 rfl) w11 (backOf (W := W) hM hZ w9 w10 hr.1 hr.2.1) qa qb qc (g := mkF m pc Ls (argsL.reverse ++ .ref b :: rest)) rfl (by rw [hml]; exact hs) (Steps.refl _) (argsL := argsL) (rest := rest) (own_ar w12 hn) rfl (by show 2 * 0 + cats rest ≤ W; omega) hd (fun _ _ => ⟨hA, hE, hr.2.2.1, hr.2.2.2⟩)
  dsimp only [Pt.U, Pt.locs, Pt.cells, Pt.slots] at X' hl hy hz st hQ
  subst hl hy hz
  exact ⟨v, T', Lc, X', hQ, fun t k => st.trans k⟩
theorem own_cIW {hs' : List (Nat × Nat × Nat × Nat)} (X : Stand p l e R s m args below meth c T locs cells slots) (hx : p.tables.exec = Jvm.exec) (hZ : Z.Warmed39 s.vm) (hown : s.vm.findClass own = some m.cls) (hml : c.maxLocals = ml)
    (w : CI a0 Z own index xi y C na (.codeWith y bytes maxL ret hs')) (hM : MW l Z y bytes maxL ret hs' rm A h Q) (hE : T.heap = h) {b : Addr} (E : Exa Z h b C) (pc : Nat) (Ls : Array Slot) (argsL rest : List Value) (W : Nat) {count : Nat}
    (hs : Ls.size = ml) (hd : decode c.code pc = .ok (.invokeinterface index count, 5)) (hr : RM W maxL cells slots rm R) (hn : argsL.length = na := by rfl) (hA : (Value.ref b :: argsL).toArray = A := by rfl) (hc : cats rest = W := by rfl) :
    AF p l e R s m args below meth c T locs cells slots pc 5 Ls (argsL.reverse ++ .ref b :: rest) rest rm Q := by
  obtain ⟨w1, w2, w3, w4, w5, w6, w7, w8, w9, w10, w11, w12⟩ := w
  obtain ⟨cq, kq, qa, qb, qc⟩ := isOf hZ hE E
  obtain ⟨v, _, ⟨T', L', k', n'⟩, -, X', ⟨Lc, hQ, hl, hy, hz⟩, st⟩ := X.interfaceBack hx hown (mvT hZ w1 rfl) (mvT hZ w2 rfl) (mvT hZ w3.1 w3.2) (mvT hZ w4 rfl) (mvT hZ w5 rfl) (mvT hZ w6 rfl) (mvT hZ w7 rfl) (mvT hZ w8 rfl) w11 (backOfWith (W := W) hM hZ w9 w10 hr.1 hr.2.1) qa qb qc (g := mkF m pc Ls (argsL.reverse ++ .ref b :: rest)) rfl (by rw [hml]; exact hs) (Steps.refl _) (argsL := argsL) (rest := rest) (own_ar w12 hn) rfl (by show 2 * 0 + cats rest ≤ W; omega) hd (fun _ _ => ⟨hA, hE, hr.2.2.1, hr.2.2.2⟩)
  dsimp only [Pt.U, Pt.locs, Pt.cells, Pt.slots] at X' hl hy hz st hQ
  subst hl hy hz
  exact ⟨v, T', Lc, X', hQ, fun t k => st.trans k⟩
theorem own_cV (X : Stand p l e R s m args below meth c T locs cells slots) (hx : p.tables.exec = Jvm.exec) (hZ : Z.Warmed39 s.vm) (hown : s.vm.findClass own = some m.cls) (hml : c.maxLocals = ml)
    (w : CV a0 Z own index xi y C na (.code y bytes maxL ret)) (hM : MF l Z y bytes maxL ret rm A h Q) (hE : T.heap = h) {b : Addr} (E : Exa Z h b C) (pc : Nat) (Ls : Array Slot) (argsL rest : List Value) (W : Nat)
    (hs : Ls.size = ml) (hd : decode c.code pc = .ok (.invokevirtual index, 3)) (hr : RM W maxL cells slots rm R) (hn : argsL.length = na := by rfl) (hA : (Value.ref b :: argsL).toArray = A := by rfl) (hc : cats rest = W := by rfl) :
    AF p l e R s m args below meth c T locs cells slots pc 3 Ls (argsL.reverse ++ .ref b :: rest) rest rm Q := by
  obtain ⟨w1, w2, w3, w4, w5, w9, w10, w11, w12⟩ := w
  obtain ⟨cq, kq, qa, qb, qc⟩ := isOf hZ hE E
  obtain ⟨v, _, ⟨T', L', k', n'⟩, -, X', ⟨Lc, hQ, hl, hy, hz⟩, st⟩ := X.virtualBack hx hown (mvT hZ w1 rfl) (mvT hZ w2 rfl) (w3 s hZ) (mvT hZ w4 rfl) (mvT hZ w5 rfl) w11 (backOf (W := W) hM hZ w9 w10 hr.1 hr.2.1) qa qc (g := mkF m pc Ls (argsL.reverse ++ .ref b :: rest)) rfl (by rw [hml]; exact hs) (Steps.refl _) (argsL := argsL) (rest := rest) (own_ar w12 hn) rfl (by show 2 * 0 + cats rest ≤ W; omega) hd (fun _ _ => ⟨hA, hE, hr.2.2.1, hr.2.2.2⟩)
  dsimp only [Pt.U, Pt.locs, Pt.cells, Pt.slots] at X' hl hy hz st hQ
  subst hl hy hz
  exact ⟨v, T', Lc, X', hQ, fun t k => st.trans k⟩
theorem own_cS (X : Stand p l e R s m args below meth c T locs cells slots) (hx : p.tables.exec = Jvm.exec) (hZ : Z.Warmed39 s.vm) (hown : s.vm.findClass own = some m.cls) (hml : c.maxLocals = ml)
    (w : CS a0 Z own index y na (.code y bytes maxL ret)) (hM : MF l Z y bytes maxL ret rm A h Q) (hE : T.heap = h) (pc : Nat) (Ls : Array Slot) (argsL rest : List Value) (W : Nat)
    (hs : Ls.size = ml) (hd : decode c.code pc = .ok (.invokestatic index, 3)) (hr : RM W maxL cells slots rm R) (hn : argsL.length = na := by rfl) (hA : argsL.toArray = A := by rfl) (hc : cats rest = W := by rfl) :
    AF p l e R s m args below meth c T locs cells slots pc 3 Ls (argsL.reverse ++ rest) rest rm Q := by
  obtain ⟨w1, w2, w9, w10, w11, w12⟩ := w
  obtain ⟨v, _, ⟨T', L', k', n'⟩, -, X', ⟨Lc, hQ, hl, hy, hz⟩, st⟩ := Jvm.LawKit.callS X hx hown (mvT hZ w1 rfl) (mvT hZ w2 rfl) (mvT hZ w10 rfl) (mvT hZ w9 rfl) w11 (backOf (W := W) hM hZ w9 w10 hr.1 hr.2.1) (g := mkF m pc Ls (argsL.reverse ++ rest)) rfl (by rw [hml]; exact hs) (argsL := argsL) (rest := rest) (own_ar w12 hn) rfl (by show 2 * 0 + cats rest ≤ W; omega) hd (fun _ _ => ⟨hA, hE, hr.2.2.1, hr.2.2.2⟩)
  dsimp only [Pt.U, Pt.locs, Pt.cells, Pt.slots] at X' hl hy hz st hQ
  subst hl hy hz
  exact ⟨v, T', Lc, X', hQ, fun t k => st t k⟩
theorem own_cN (X : Stand p l e R s m args below meth c T locs cells slots) (hx : p.tables.exec = Jvm.exec) (hZ : Z.Warmed39 s.vm) (hown : s.vm.findClass own = some m.cls) (hml : c.maxLocals = ml)
    (w : CN a0 Z own index y na (.code y bytes maxL none)) (hM : MF l Z y bytes maxL none rm A h Q) (hE : T.heap = h) (b : Addr) (pc : Nat) (Ls : Array Slot) (argsL rest : List Value) (W : Nat)
    (hs : Ls.size = ml) (hd : decode c.code pc = .ok (.invokespecial index, 3)) (hr : RM W maxL cells slots rm R) (hn : argsL.length = na := by rfl) (hA : (Value.ref b :: argsL).toArray = A := by rfl) (hc : cats rest = W := by rfl) :
    AF p l e R s m args below meth c T locs cells slots pc 3 Ls (argsL.reverse ++ .ref b :: rest) rest rm Q := by
  obtain ⟨w0, w1, w2, w9, w10, w11, w12⟩ := w
  obtain ⟨v, _, ⟨T', L', k', n'⟩, -, X', ⟨Lc, hQ, hl, hy, hz⟩, st⟩ := X.specialBack hx w0 hown (mvT hZ w1 rfl) (mvT hZ w2 rfl) (mvT hZ w9 rfl) w11 (backOf (W := W) hM hZ w9 w10 hr.1 hr.2.1) (g := mkF m pc Ls (argsL.reverse ++ .ref b :: rest)) rfl (by rw [hml]; exact hs) (Steps.refl _) (argsL := argsL) (rest := rest) (own_ar w12 hn) rfl (by show 2 * 0 + cats rest ≤ W; omega) hd (fun _ _ => ⟨hA, hE, hr.2.2.1, hr.2.2.2⟩)
  dsimp only [Pt.U, Pt.locs, Pt.cells, Pt.slots] at X' hl hy hz st hQ
  subst hl hy hz
  exact ⟨v, T', Lc, X', hQ, fun t k => st.trans k⟩
def CM (a0 : Array Value) (Z : State) (own : String) (index : Nat) (y : MethodName) (na : Nat) (host : String) (k : Jvm.Cond) : Prop :=
  y.name = "<init>" ∧ B4 a0 Z (.methodLinkNest own index y host) ∧ B4 a0 Z (.instanceMethod y) ∧ B4 a0 Z k ∧ B4 a0 Z (.initialized y.cls) ∧ NH y.cls ∧ AR y.desc na
theorem mvM {host : String} (hZ : Z.Warmed39 s.vm) (w : (Cond.methodLinkNest own index y host).before a0 Z = true) : (Cond.methodLinkNest own index y host).before args s = true := (Cond.methodLinkNest_wide hZ w :)
theorem own_cM {host : String} (X : Stand p l e R s m args below meth c T locs cells slots) (hx : p.tables.exec = Jvm.exec) (hZ : Z.Warmed39 s.vm) (hown : s.vm.findClass own = some m.cls) (hml : c.maxLocals = ml)
    (w : CM a0 Z own index y na host (.code y bytes maxL none)) (hM : MF l Z y bytes maxL none rm A h Q) (hE : T.heap = h) (b : Addr) (pc : Nat) (Ls : Array Slot) (argsL rest : List Value) (W : Nat)
    (hs : Ls.size = ml) (hd : decode c.code pc = .ok (.invokespecial index, 3)) (hr : RM W maxL cells slots rm R) (hn : argsL.length = na := by rfl) (hA : (Value.ref b :: argsL).toArray = A := by rfl) (hc : cats rest = W := by rfl) :
    AF p l e R s m args below meth c T locs cells slots pc 3 Ls (argsL.reverse ++ .ref b :: rest) rest rm Q := by
  obtain ⟨w0, w1, w2, w9, w10, w11, w12⟩ := w
  obtain ⟨v, _, ⟨T', L', k', n'⟩, -, X', ⟨Lc, hQ, hl, hy, hz⟩, st⟩ := X.specialBackNest hx w0 hown (mvM hZ w1) (mvT hZ w2 rfl) (mvT hZ w9 rfl) w11 (backOf (W := W) hM hZ w9 w10 hr.1 hr.2.1) (g := mkF m pc Ls (argsL.reverse ++ .ref b :: rest)) rfl (by rw [hml]; exact hs) (Steps.refl _) (argsL := argsL) (rest := rest) (own_ar w12 hn) rfl (by show 2 * 0 + cats rest ≤ W; omega) hd (fun _ _ => ⟨hA, hE, hr.2.2.1, hr.2.2.2⟩)
  dsimp only [Pt.U, Pt.locs, Pt.cells, Pt.slots] at X' hl hy hz st hQ
  subst hl hy hz
  exact ⟨v, T', Lc, X', hQ, fun t k => st.trans k⟩
def CP (a0 : Array Value) (Z : State) (own : String) (index : Nat) (y : MethodName) (na : Nat) (k : Jvm.Cond) : Prop :=
  B4 a0 Z (.methodLink own index y) ∧ B4 a0 Z (.instanceMethod y) ∧ B4 a0 Z (.selects y.cls y y) ∧ (∀ s : State, Z.Warmed39 s.vm → s.PrivateAt y) ∧ B4 a0 Z k ∧ B4 a0 Z (.initialized y.cls) ∧ NH y.cls ∧ AR y.desc na
theorem own_cP (X : Stand p l e R s m args below meth c T locs cells slots) (hx : p.tables.exec = Jvm.exec) (hZ : Z.Warmed39 s.vm) (hown : s.vm.findClass own = some m.cls) (hml : c.maxLocals = ml)
    (w : CP a0 Z own index y na (.code y bytes maxL ret)) (hM : MF l Z y bytes maxL ret rm A h Q) (hE : T.heap = h) {b : Addr} {C : String} (E : Exa Z h b C) (pc : Nat) (Ls : Array Slot) (argsL rest : List Value) (W : Nat)
    (hs : Ls.size = ml) (hd : decode c.code pc = .ok (.invokevirtual index, 3)) (hr : RM W maxL cells slots rm R) (hn : argsL.length = na := by rfl) (hA : (Value.ref b :: argsL).toArray = A := by rfl) (hc : cats rest = W := by rfl) :
    AF p l e R s m args below meth c T locs cells slots pc 3 Ls (argsL.reverse ++ .ref b :: rest) rest rm Q := by
  obtain ⟨w1, w2, w3, w4, w9, w10, w11, w12⟩ := w
  obtain ⟨cq, qq, qr⟩ := E.cell
  obtain ⟨v, _, ⟨T', L', k', n'⟩, -, X', ⟨Lc, hQ, hl, hy, hz⟩, st⟩ := X.privateBack hx hown (mvT hZ w1 rfl) (mvT hZ w2 rfl) (mvT hZ w3 rfl) (w4 s hZ) (mvT hZ w9 rfl) w11 (backOf (W := W) hM hZ w9 w10 hr.1 hr.2.1) (g := mkF m pc Ls (argsL.reverse ++ .ref b :: rest)) rfl (by rw [hml]; exact hs) (Steps.refl _) (by rw [hE]; exact qq) qr (argsL := argsL) (rest := rest) (own_ar w12 hn) rfl (by show 2 * 0 + cats rest ≤ W; omega) hd (fun _ _ => ⟨hA, hE, hr.2.2.1, hr.2.2.2⟩)
  dsimp only [Pt.U, Pt.locs, Pt.cells, Pt.slots] at X' hl hy hz st hQ
  subst hl hy hz
  exact ⟨v, T', Lc, X', hQ, fun t k => st.trans k⟩
def CU (a0 : Array Value) (Z : State) (own : String) (index : Nat) (xi y : MethodName) (C owner : String) (na : Nat) (k : Jvm.Cond) : Prop :=
  B4 a0 Z (.methodLink own index xi) ∧ B4 a0 Z (.sameMethod xi.cls owner xi.name xi.desc) ∧ B4 a0 Z (.declares ⟨owner, xi.name, xi.desc⟩) ∧ B4 a0 Z (.selects C xi y) ∧ B4 a0 Z (.instanceMethod y) ∧ B4 a0 Z k ∧ B4 a0 Z (.initialized y.cls) ∧ NH owner ∧ AR xi.desc na
theorem own_cU {owner : String} (X : Stand p l e R s m args below meth c T locs cells slots) (hx : p.tables.exec = Jvm.exec) (hZ : Z.Warmed39 s.vm) (hown : s.vm.findClass own = some m.cls) (hml : c.maxLocals = ml)
    (w : CU a0 Z own index xi y C owner na (.code y bytes maxL ret)) (hM : MF l Z y bytes maxL ret rm A h Q) (hE : T.heap = h) {b : Addr} (E : Exa Z h b C) (pc : Nat) (Ls : Array Slot) (argsL rest : List Value) (W : Nat)
    (hs : Ls.size = ml) (hd : decode c.code pc = .ok (.invokevirtual index, 3)) (hr : RM W maxL cells slots rm R) (hn : argsL.length = na := by rfl) (hA : (Value.ref b :: argsL).toArray = A := by rfl) (hc : cats rest = W := by rfl) :
    AF p l e R s m args below meth c T locs cells slots pc 3 Ls (argsL.reverse ++ .ref b :: rest) rest rm Q := by
  obtain ⟨w1, w2, w3, w4, w5, w9, w10, w11, w12⟩ := w
  obtain ⟨cq, kq, qa, qb, qc⟩ := isOf hZ hE E
  obtain ⟨v, _, ⟨T', L', k', n'⟩, -, X', ⟨Lc, hQ, hl, hy, hz⟩, st⟩ := X.virtualBackUp hx hown (mvT hZ w1 rfl) (mvT hZ w2 rfl) (mvT hZ w3 rfl) w11 (mvT hZ w4 rfl) (mvT hZ w5 rfl) (backOf (W := W) hM hZ w9 w10 hr.1 hr.2.1) qa qc (g := mkF m pc Ls (argsL.reverse ++ .ref b :: rest)) rfl (by rw [hml]; exact hs) (Steps.refl _) (argsL := argsL) (rest := rest) (own_ar w12 hn) rfl (by show 2 * 0 + cats rest ≤ W; omega) hd (fun _ _ => ⟨hA, hE, hr.2.2.1, hr.2.2.2⟩)
  dsimp only [Pt.U, Pt.locs, Pt.cells, Pt.slots] at X' hl hy hz st hQ
  subst hl hy hz
  exact ⟨v, T', Lc, X', hQ, fun t k => st.trans k⟩
theorem own_laJ (X : Stand p l e R s m args below meth c T locs cells slots) (hx : p.tables.exec = Jvm.exec) (hZ : Z.Warmed39 s.vm) (hE : T.heap = h) {a : Addr} {k : ClassId} {n : Int32} {vs : List Value} {d : Value} (F : Arv Z h a k .long n vs d) {j : Int32} (hj : ¬ j < 0 ∧ j < n) {v : Value} (hv : vs.getD j.toNatClampNeg d = v) {rest : List Value} {t : State}
    (hd : decode c.code pc = .ok (.laload, 1)) (K : Steps p.tables e below (T.setTop (mkF m (pc + 1) Ls (v :: rest))) t) : Steps p.tables e below (T.setTop (mkF m pc Ls (.int j :: .ref a :: rest))) t := by
  obtain ⟨cl, Ar, -, S, -, Hs, -⟩ := F
  exact X.laload hx (by rw [hE]; exact Ar.1) (State.isArrayOf_alike hZ.alike Ar.2.1) Ar.2.2 (inb_of S hj) (Hs.at (inb_of S hj) hv) (g := mkF m pc Ls (.int j :: .ref a :: rest)) rfl rfl hd _ K
theorem own_laR (X : Stand p l e R s m args below meth c T locs cells slots) (hx : p.tables.exec = Jvm.exec) (hZ : Z.Warmed39 s.vm) (hE : T.heap = h) {a : Addr} {k : ClassId} {n : Int32} {vs : List Value} {d : Value} {ty : FieldType} (F : Arv Z h a k ty n vs d) {j : Int32} (hj : ¬ j < 0 ∧ j < n) {v : Value} (hv : vs.getD j.toNatClampNeg d = v) {rest : List Value} {t : State} (hty : ty.isReference = true)
    (hd : decode c.code pc = .ok (.aaload, 1)) (K : Steps p.tables e below (T.setTop (mkF m (pc + 1) Ls (v :: rest))) t) : Steps p.tables e below (T.setTop (mkF m pc Ls (.int j :: .ref a :: rest))) t := by
  obtain ⟨cl, Ar, -, S, -, Hs, -⟩ := F
  exact X.aaload hx (by rw [hE]; exact Ar.1) (State.isArrayOf_alike hZ.alike Ar.2.1) hty Ar.2.2 (inb_of S hj) (Hs.at (inb_of S hj) hv) (g := mkF m pc Ls (.int j :: .ref a :: rest)) rfl rfl hd _ K
theorem own_sJ (X : Stand p l e R s m args below meth c T locs cells slots) (hx : p.tables.exec = Jvm.exec) (hZ : Z.Warmed39 s.vm) (hE : T.heap = h) {a : Addr} {k : ClassId} {n : Int32} {vs : List Value} {d : Value} (F : Arv Z h a k .long n vs d) (j : Int32) (hj : ¬ j < 0 ∧ j < n) (i : Nat) (x : Int64) (rest : List Value) (pc : Nat) (Ls : Array Slot)
    (hd : decode c.code pc = .ok (.lastore, 1)) (hi : j.toNatClampNeg = i) (hl : i < vs.length) :
    ∃ T' h', Stand p l e R s m args below meth c T' (locs ++ [⟨a, j.toNatClampNeg⟩]) cells slots ∧ T'.heap = h' ∧ Wr h h' a j.toNatClampNeg (.long x) ∧ Arv Z h' a k .long n (vs.set i (.long x)) d ∧ ∀ t, Steps p.tables e below (T'.setTop (mkF m (pc + 1) Ls rest)) t → Steps p.tables e below (T.setTop (mkF m pc Ls (.long x :: .int j :: .ref a :: rest))) t := by
  obtain ⟨cl, Ar, q, S, M, Hs, G⟩ := F
  obtain ⟨T', h', X', e', W, st⟩ := stJ X hx hZ hE Ar (j := j) (inb_of S hj) (g := mkF m pc Ls (.long x :: .int j :: .ref a :: rest)) rfl rfl hd
  exact ⟨T', h', X', e', W, Arv.set Ar q S M Hs G rfl W i hi hl, st⟩
theorem own_retJ (X : Stand p l e R s m args below meth c T locs cells slots) (hx : p.tables.exec = Jvm.exec) {x : Int64} {rest : List Value} (hret : meth.sig.returnType = some .long) (hd : decode c.code pc = .ok (.lreturn, 1)) {fs : List Frame} (hl : RT T e m (some (.long x)) fs) :
    Steps p.tables e below (T.setTop (mkF m pc Ls (.long x :: rest))) (T.setFrames fs) := retOut X hx hret rfl (Or.inr (Or.inl ⟨rfl, rfl, x, rfl⟩)) hd hl
theorem own_retR (X : Stand p l e R s m args below meth c T locs cells slots) (hx : p.tables.exec = Jvm.exec) {w : Value} {t : FieldType} {rest : List Value} (hret : meth.sig.returnType = some t) (hn : narrow t w = w) (ht : t.isReference = true) (hw : w.isRef = true) (hd : decode c.code pc = .ok (.areturn, 1)) {fs : List Frame} (hl : RT T e m (some w) fs) :
    Steps p.tables e below (T.setTop (mkF m pc Ls (w :: rest))) (T.setFrames fs) := retOut X hx hret hn (Or.inr (Or.inr (Or.inr (Or.inr ⟨rfl, ht, hw⟩)))) hd hl
theorem wx {a0 : Array Value} {Z : State} (hw : HW a0 Z) (i : Nat) {d : Jvm.Cond} (h : tables_1[i]? = some d) : d.before a0 Z = true := hw _ (List.mem_of_getElem? h)
theorem gF {n d R0 O : String} (X : Stand p l e R s m args below meth c T locs cells slots) (hx : p.tables.exec = Jvm.exec) (hZ : Z.Warmed39 s.vm) (hown : s.vm.findClass own = some m.cls) (w : (Cond.fieldLink own index R0 n d).before a0 Z = true) (via : Via Z R0 O n d)
    (eT : T.heap = h) {a : Addr} {v : Value} (F : Fld Z h a O n d v) (pc : Nat) (Ls : Array Slot) (rest : List Value) (hd : decode c.code pc = .ok (.getfield index, 3)) : ∃ T', Stand p l e R s m args below meth c T' locs cells slots ∧ T'.heap = h ∧ ∀ t, Steps p.tables e below (T'.setTop (mkF m (pc + 3) Ls (v :: rest))) t → Steps p.tables e below (T.setTop (mkF m pc Ls (.ref a :: rest))) t :=
  getF X hx hZ hown (host := "") (Or.inl w) via eT F (g := mkF m pc Ls (.ref a :: rest)) rfl rfl hd
end Calls
theorem nl {x y n : Nat} (h : x < n) (k : n ≤ y) : x ≠ y := Nat.ne_of_lt (Nat.lt_of_lt_of_le h k)
theorem lq {x y z : Nat} (h : x < y) (k : y ≤ z) : x < z := Nat.lt_of_lt_of_le h k
abbrev DC (b : ByteArray) (pc : Nat) (i : Instr) (n : Nat) : Prop := decode b pc = .ok (i, n)
abbrev cb1 := prog_26_method_1_code
abbrev cb2 := jdk_30_method_1_code
abbrev cb3 := object_method_1_code
abbrev cb4 := jdk_42_method_3_code
abbrev cb5 := jdk_42_method_149_code
abbrev cb6 := jdk_52_method_16_code
abbrev cb7 := jdk_52_method_21_code
abbrev cb8 := jdk_52_method_15_code
abbrev cb9 := method_3_code
abbrev cb10 := jdk_38_method_2_code
abbrev cb11 := jdk_39_method_1_code
abbrev cb12 := jdk_22_method_1_code
abbrev cb13 := method_2_code
abbrev cb14 := jdk_38_method_25_code
abbrev cb15 := jdk_38_method_24_code
abbrev cb16 := jdk_38_method_7_code
abbrev cb17 := jdk_38_method_6_code
abbrev cb18 := jdk_29_method_65_code
abbrev cb19 := prog_22_method_1_code
abbrev cb20 := jdk_40_method_48_code
abbrev cb21 := jdk_56_method_3_code
abbrev cb22 := jdk_38_method_9_code
abbrev cb23 := jdk_38_method_16_code
abbrev cb24 := jdk_65_method_119_code
abbrev cb25 := jdk_65_method_120_code
abbrev cb26 := jdk_29_method_69_code
abbrev cb27 := jdk_40_method_47_code
abbrev cb28 := jdk_44_method_1_code
abbrev cb29 := jdk_46_method_1_code
abbrev cb30 := jdk_47_method_1_code
abbrev cb31 := jdk_31_method_10_code
abbrev cb32 := prog_22_method_2_code
abbrev cb33 := jdk_40_method_36_code
abbrev cb34 := prog_22_method_9_code
abbrev cb35 := jdk_42_method_66_code
abbrev cb36 := prog_22_method_10_code
abbrev cb37 := prog_22_method_11_code
abbrev cb38 := prog_22_method_12_code
abbrev cb39 := prog_22_method_13_code
abbrev cb40 := prog_22_method_14_code
abbrev cb41 := method_4_code
abbrev cb42 := jdk_45_method_3_code
abbrev cb43 := jdk_44_method_3_code
abbrev cb44 := jdk_44_method_5_code
abbrev cb45 := jdk_56_method_4_code
abbrev cb46 := jdk_45_method_1_code
abbrev cb47 := jdk_45_method_4_code
abbrev cb48 := jdk_44_method_2_code

theorem own_and3 (x : Int32) : (x &&& (3 : Int32)) = (0 : Int32) ∨ (x &&& (3 : Int32)) = (1 : Int32) ∨ (x &&& (3 : Int32)) = (2 : Int32) ∨ (x &&& (3 : Int32)) = (3 : Int32) := by
  have e1 := c_mask x 3 2 (by decide) (by decide)
  generalize (x &&& (3 : Int32)) = r at *
  have hd : r.toInt = 0 ∨ r.toInt = 1 ∨ r.toInt = 2 ∨ r.toInt = 3 := by omega
  rcases hd with h | h | h | h
  · exact Or.inl (Int32.toInt_inj.mp (h.trans (by decide)))
  · exact Or.inr (Or.inl (Int32.toInt_inj.mp (h.trans (by decide))))
  · exact Or.inr (Or.inr (Or.inl (Int32.toInt_inj.mp (h.trans (by decide)))))
  · exact Or.inr (Or.inr (Or.inr (Int32.toInt_inj.mp (h.trans (by decide)))))
theorem own_ix (x : Int32) : ¬ (((x &&& (2147483647 : Int32)) % (12 : Int32)) < (0 : Int32)) ∧ ((x &&& (2147483647 : Int32)) % (12 : Int32)) < (12 : Int32) := by
  have e1 := c_mask x 2147483647 31 (by decide) (by decide)
  have e2 := (c_irem (x &&& (2147483647 : Int32)) 12 12 (by decide)).1 (by omega)
  have l0 : (0 : Int32).toInt = 0 := by decide
  have l12 : (12 : Int32).toInt = 12 := by decide
  rw [Int32.lt_iff_toInt_lt, Int32.lt_iff_toInt_lt]; omega
theorem own_ix12 (x : Int32) : let r := (x &&& (2147483647 : Int32)) % (12 : Int32); r = 0 ∨ r = 1 ∨ r = 2 ∨ r = 3 ∨ r = 4 ∨ r = 5 ∨ r = 6 ∨ r = 7 ∨ r = 8 ∨ r = 9 ∨ r = 10 ∨ r = 11 := by
  have h := own_ix x
  intro r
  have hr : r = (x &&& (2147483647 : Int32)) % (12 : Int32) := rfl
  rw [← hr] at h
  rw [Int32.lt_iff_toInt_lt, Int32.lt_iff_toInt_lt] at h
  have l0 : (0 : Int32).toInt = 0 := by decide
  have l12 : (12 : Int32).toInt = 12 := by decide
  have k : ∀ n : Int32, r.toInt = n.toInt → r = n := fun n h => Int32.toInt_inj.mp h
  have hd : r.toInt = 0 ∨ r.toInt = 1 ∨ r.toInt = 2 ∨ r.toInt = 3 ∨ r.toInt = 4 ∨ r.toInt = 5 ∨ r.toInt = 6 ∨ r.toInt = 7 ∨ r.toInt = 8 ∨ r.toInt = 9 ∨ r.toInt = 10 ∨ r.toInt = 11 := by omega
  rcases hd with h | h | h | h | h | h | h | h | h | h | h | h
  · exact Or.inl (k 0 h)
  · exact Or.inr (Or.inl (k 1 h))
  · exact Or.inr (Or.inr (Or.inl (k 2 h)))
  · exact Or.inr (Or.inr (Or.inr (Or.inl (k 3 h))))
  · exact Or.inr (Or.inr (Or.inr (Or.inr (Or.inl (k 4 h)))))
  · exact Or.inr (Or.inr (Or.inr (Or.inr (Or.inr (Or.inl (k 5 h))))))
  · exact Or.inr (Or.inr (Or.inr (Or.inr (Or.inr (Or.inr (Or.inl (k 6 h)))))))
  · exact Or.inr (Or.inr (Or.inr (Or.inr (Or.inr (Or.inr (Or.inr (Or.inl (k 7 h))))))))
  · exact Or.inr (Or.inr (Or.inr (Or.inr (Or.inr (Or.inr (Or.inr (Or.inr (Or.inl (k 8 h)))))))))
  · exact Or.inr (Or.inr (Or.inr (Or.inr (Or.inr (Or.inr (Or.inr (Or.inr (Or.inr (Or.inl (k 9 h))))))))))
  · exact Or.inr (Or.inr (Or.inr (Or.inr (Or.inr (Or.inr (Or.inr (Or.inr (Or.inr (Or.inr (Or.inl (k 10 h)))))))))))
  · exact Or.inr (Or.inr (Or.inr (Or.inr (Or.inr (Or.inr (Or.inr (Or.inr (Or.inr (Or.inr (Or.inr (k 11 h)))))))))))
theorem own_c255 (x : Int32) : ¬ ((255 : Int32) < (nar .char ((x &&& (255 : Int32)).toUInt32.toUInt16.toUInt32.toInt32))) := by
  rw [i2c_mask]
  have e : nar .char (x &&& 255) = x &&& 255 := i2c_mask x
  rw [e, Int32.lt_iff_toInt_lt]
  have := c_mask x 255 8 (by decide) (by decide)
  have l : (255 : Int32).toInt = 255 := by decide
  omega
theorem own_iteG {n : Nat} {c : Prop} [Decidable c] {a b x : Addr} (hx : (if c then a else b) = x) (A : n ≤ a) (B : n ≤ b) : n ≤ x := by
  subst hx
  split
  · exact A
  · exact B
theorem own_iteE {Z : State} {h : Heap} {c : Prop} [Decidable c] {a b x : Addr} {K : String} (hx : (if c then a else b) = x) (A : Exa Z h a K) (B : Exa Z h b K) : Exa Z h x K := by
  subst hx
  split
  · exact A
  · exact B
theorem wd0 {a0 Z} (hw : HW a0 Z) : B4 a0 Z (.classLink s28 (30 : Nat) s29) := wx hw 0 rfl
theorem wd1 {a0 Z} (hw : HW a0 Z) : B4 a0 Z (.instantiable s29 (4 : Nat)) := wx hw 1 rfl
theorem wd2 {a0 Z} (hw : HW a0 Z) : B4 a0 Z (.initialized s29) := wx hw 2 rfl
theorem wd11 {a0 Z} (hw : HW a0 Z) : B4 a0 Z (.methodLink s38 (1 : Nat) mn3) := wx hw 11 rfl
theorem wd12 {a0 Z} (hw : HW a0 Z) : B4 a0 Z (.instanceMethod mn3) := wx hw 12 rfl
theorem wd13 {a0 Z} (hw : HW a0 Z) : B4 a0 Z (.code mn3 object_method_1_code (1 : Nat) (Option.none : Option Jvm.ClassFile.FieldType)) := wx hw 13 rfl
theorem wd14 {a0 Z} (hw : HW a0 Z) : B4 a0 Z (.fieldLink s29 (7 : Nat) s29 "price" s12) := wx hw 14 rfl
theorem wd15 {a0 Z} (hw : HW a0 Z) : B4 a0 Z (.laysFinal s29 s29 "price" s12) := wx hw 15 rfl
theorem wd16 {a0 Z} (hw : HW a0 Z) : B4 a0 Z (.fieldLink s29 (13 : Nat) s29 s34 s13) := wx hw 16 rfl
theorem wd17 {a0 Z} (hw : HW a0 Z) : B4 a0 Z (.laysFinal s29 s29 s34 s13) := wx hw 17 rfl
theorem wd18 {a0 Z} (hw : HW a0 Z) : B4 a0 Z (.fieldLink s29 (17 : Nat) s29 "lastDay" s16) := wx hw 18 rfl
theorem wd19 {a0 Z} (hw : HW a0 Z) : B4 a0 Z (.laysFinal s29 s29 "lastDay" s16) := wx hw 19 rfl
theorem wd20 {a0 Z} (hw : HW a0 Z) : B4 a0 Z (.fieldLink s29 (21 : Nat) s29 s31 s16) := wx hw 20 rfl
theorem wd21 {a0 Z} (hw : HW a0 Z) : B4 a0 Z (.laysFinal s29 s29 s31 s16) := wx hw 21 rfl
theorem wd22 {a0 Z} (hw : HW a0 Z) : B4 a0 Z (.classLink s28 (35 : Nat) s39) := wx hw 22 rfl
theorem wd23 {a0 Z} (hw : HW a0 Z) : B4 a0 Z (.instantiable s39 (4 : Nat)) := wx hw 23 rfl
theorem wd24 {a0 Z} (hw : HW a0 Z) : B4 a0 Z (.initialized s39) := wx hw 24 rfl
theorem wd25 {a0 Z} (hw : HW a0 Z) : B4 a0 Z (.arrayClass Jvm.ClassFile.FieldType.char) := wx hw 25 rfl
theorem wd33 {a0 Z} (hw : HW a0 Z) : B4 a0 Z (.methodLink s39 (1 : Nat) mn3) := wx hw 33 rfl
theorem wd34 {a0 Z} (hw : HW a0 Z) : B4 a0 Z (.fieldLink s39 (38 : Nat) s39 s1 "Z") := wx hw 34 rfl
theorem wd39 {a0 Z} (hw : HW a0 Z) : B4 a0 Z (.arrayClass Jvm.ClassFile.FieldType.byte) := wx hw 39 rfl
theorem wd46 {a0 Z} (hw : HW a0 Z) : B4 a0 Z (.fieldLink s39 (15 : Nat) s39 "coder" "B") := wx hw 46 rfl
theorem wd47 {a0 Z} (hw : HW a0 Z) : B4 a0 Z (.laysFinal s39 s39 "coder" "B") := wx hw 47 rfl
theorem wd48 {a0 Z} (hw : HW a0 Z) : B4 a0 Z (.fieldLink s39 (9 : Nat) s39 "value" "[B") := wx hw 48 rfl
theorem wd49 {a0 Z} (hw : HW a0 Z) : B4 a0 Z (.laysFinal s39 s39 "value" "[B") := wx hw 49 rfl
theorem wd50 {a0 Z} (hw : HW a0 Z) : B4 a0 Z (.classLink s28 (40 : Nat) s26) := wx hw 50 rfl
theorem wd51 {a0 Z} (hw : HW a0 Z) : B4 a0 Z (.arrayOver (Jvm.ClassFile.FieldType.object s26)) := wx hw 51 rfl
theorem wd52 {a0 Z} (hw : HW a0 Z) : B4 a0 Z (.fieldLink s28 (42 : Nat) s26 "DAYS" s9) := wx hw 52 rfl
theorem wd53 {a0 Z} (hw : HW a0 Z) : B4 a0 Z (.initialized s26) := wx hw 53 rfl
theorem wd54 {a0 Z} (hw : HW a0 Z) : B4 a0 Z (.laysStatic s26 "DAYS" s9) := wx hw 54 rfl
theorem wd56 {a0 Z} (hw : HW a0 Z) : B4 a0 Z (.fieldLink s28 (46 : Nat) s26 "ENERGY" s9) := wx hw 56 rfl
theorem wd57 {a0 Z} (hw : HW a0 Z) : B4 a0 Z (.laysStatic s26 "ENERGY" s9) := wx hw 57 rfl
theorem wd58 {a0 Z} (hw : HW a0 Z) : B4 a0 Z (.fieldLink s28 (49 : Nat) s26 s19 s9) := wx hw 58 rfl
theorem wd59 {a0 Z} (hw : HW a0 Z) : B4 a0 Z (.laysStatic s26 s19 s9) := wx hw 59 rfl
theorem wd60 {a0 Z} (hw : HW a0 Z) : B4 a0 Z (.fieldLink s28 (52 : Nat) s26 s18 s9) := wx hw 60 rfl
theorem wd61 {a0 Z} (hw : HW a0 Z) : B4 a0 Z (.laysStatic s26 s18 s9) := wx hw 61 rfl
theorem wd62 {a0 Z} (hw : HW a0 Z) : B4 a0 Z (.fieldLink s28 (55 : Nat) s26 s0 s9) := wx hw 62 rfl
theorem wd63 {a0 Z} (hw : HW a0 Z) : B4 a0 Z (.laysStatic s26 s0 s9) := wx hw 63 rfl
theorem wd64 {a0 Z} (hw : HW a0 Z) : B4 a0 Z (.fieldLink s28 (58 : Nat) s26 s17 s9) := wx hw 64 rfl
theorem wd65 {a0 Z} (hw : HW a0 Z) : B4 a0 Z (.laysStatic s26 s17 s9) := wx hw 65 rfl
theorem wd66 {a0 Z} (hw : HW a0 Z) : B4 a0 Z (.fieldLink s28 (61 : Nat) s26 s5 s9) := wx hw 66 rfl
theorem wd67 {a0 Z} (hw : HW a0 Z) : B4 a0 Z (.laysStatic s26 s5 s9) := wx hw 67 rfl
theorem wd68 {a0 Z} (hw : HW a0 Z) : B4 a0 Z (.fieldLink s28 (64 : Nat) s26 s7 s9) := wx hw 68 rfl
theorem wd69 {a0 Z} (hw : HW a0 Z) : B4 a0 Z (.laysStatic s26 s7 s9) := wx hw 69 rfl
theorem wd70 {a0 Z} (hw : HW a0 Z) : B4 a0 Z (.fieldLink s28 (67 : Nat) s26 s6 s9) := wx hw 70 rfl
theorem wd71 {a0 Z} (hw : HW a0 Z) : B4 a0 Z (.laysStatic s26 s6 s9) := wx hw 71 rfl
theorem wd72 {a0 Z} (hw : HW a0 Z) : B4 a0 Z (.fieldLink s28 (70 : Nat) s26 s20 s9) := wx hw 72 rfl
theorem wd73 {a0 Z} (hw : HW a0 Z) : B4 a0 Z (.laysStatic s26 s20 s9) := wx hw 73 rfl
theorem wd74 {a0 Z} (hw : HW a0 Z) : B4 a0 Z (.fieldLink s28 (73 : Nat) s26 s8 s9) := wx hw 74 rfl
theorem wd75 {a0 Z} (hw : HW a0 Z) : B4 a0 Z (.laysStatic s26 s8 s9) := wx hw 75 rfl
theorem wd76 {a0 Z} (hw : HW a0 Z) : B4 a0 Z (.fieldLink s28 (76 : Nat) s26 s3 s9) := wx hw 76 rfl
theorem wd77 {a0 Z} (hw : HW a0 Z) : B4 a0 Z (.laysStatic s26 s3 s9) := wx hw 77 rfl
theorem wd78 {a0 Z} (hw : HW a0 Z) : B4 a0 Z (.constant s28 (79 : Nat) (2147483647 : Int32)) := wx hw 78 rfl
theorem wd83 {a0 Z} (hw : HW a0 Z) : B4 a0 Z (.classLink s28 (7 : Nat) s44) := wx hw 83 rfl
theorem wd84 {a0 Z} (hw : HW a0 Z) : B4 a0 Z (.instantiable s44 (3 : Nat)) := wx hw 84 rfl
theorem wd85 {a0 Z} (hw : HW a0 Z) : B4 a0 Z (.initialized s44) := wx hw 85 rfl
theorem wd101 {a0 Z} (hw : HW a0 Z) : B4 a0 Z (.methodLink s42 (1 : Nat) mn3) := wx hw 101 rfl
theorem wd102 {a0 Z} (hw : HW a0 Z) : B4 a0 Z (.fieldLink s43 (7 : Nat) s43 s57 "I") := wx hw 102 rfl
theorem wd103 {a0 Z} (hw : HW a0 Z) : B4 a0 Z (.lays s44 s43 s57 "I") := wx hw 103 rfl
theorem wd104 {a0 Z} (hw : HW a0 Z) : B4 a0 Z (.fieldLink s44 (39 : Nat) s44 s2 s21) := wx hw 104 rfl
theorem wd105 {a0 Z} (hw : HW a0 Z) : B4 a0 Z (.fieldLink s44 (9 : Nat) s44 s32 s21) := wx hw 105 rfl
theorem wd106 {a0 Z} (hw : HW a0 Z) : B4 a0 Z (.lays s44 s44 s32 s21) := wx hw 106 rfl
theorem wd113 {a0 Z} (hw : HW a0 Z) : B4 a0 Z (.selects s44 mn14 mn14) := wx hw 113 rfl
theorem wd115 {a0 Z} (hw : HW a0 Z) : B4 a0 Z (.fieldLink s44 (63 : Nat) s44 s57 "I") := wx hw 115 rfl
theorem wd116 {a0 Z} (hw : HW a0 Z) : B4 a0 Z (.sameField s44 s43 s57 "I") := wx hw 116 rfl
theorem wd117 {a0 Z} (hw : HW a0 Z) : B4 a0 Z (.fieldLink s44 (48 : Nat) s44 "size" "I") := wx hw 117 rfl
theorem wd118 {a0 Z} (hw : HW a0 Z) : B4 a0 Z (.lays s44 s44 "size" "I") := wx hw 118 rfl
theorem wd121 {a0 Z} (hw : HW a0 Z) : B4 a0 Z (.privateMethod mn15) := wx hw 121 rfl
theorem wd126 {a0 Z} (hw : HW a0 Z) : B4 a0 Z (.privateMethod mn16) := wx hw 126 rfl
theorem wd131 {a0 Z} (hw : HW a0 Z) : B4 a0 Z (.privateMethod mn17) := wx hw 131 rfl
theorem wd138 {a0 Z} (hw : HW a0 Z) : B4 a0 Z (.classLink s44 (7 : Nat) s37) := wx hw 138 rfl
theorem wd139 {a0 Z} (hw : HW a0 Z) : B4 a0 Z (.arrayOver (Jvm.ClassFile.FieldType.object s37)) := wx hw 139 rfl
theorem wd140 {a0 Z} (hw : HW a0 Z) : B4 a0 Z (.castable s29 s37) := wx hw 140 rfl
theorem wd141 {a0 Z} (hw : HW a0 Z) : B4 a0 Z (.classLink s28 (84 : Nat) s27) := wx hw 141 rfl
theorem wd142 {a0 Z} (hw : HW a0 Z) : B4 a0 Z (.instantiable s27 (6 : Nat)) := wx hw 142 rfl
theorem wd143 {a0 Z} (hw : HW a0 Z) : B4 a0 Z (.initialized s27) := wx hw 143 rfl
theorem wd156 {a0 Z} (hw : HW a0 Z) : B4 a0 Z (.classLink s47 (10 : Nat) s50) := wx hw 156 rfl
theorem wd157 {a0 Z} (hw : HW a0 Z) : B4 a0 Z (.superclass s44 s43) := wx hw 157 rfl
theorem wd158 {a0 Z} (hw : HW a0 Z) : B4 a0 Z (.superclass s43 s42) := wx hw 158 rfl
theorem wd159 {a0 Z} (hw : HW a0 Z) : B4 a0 Z (.superclass s42 s37) := wx hw 159 rfl
theorem wd160 {a0 Z} (hw : HW a0 Z) : B4 a0 Z (.noSuperclass s37) := wx hw 160 rfl
theorem wd161 {a0 Z} (hw : HW a0 Z) : B4 a0 Z (.classLink s47 (12 : Nat) s51) := wx hw 161 rfl
theorem wd183 {a0 Z} (hw : HW a0 Z) : B4 a0 Z (.methodLink s45 (86 : Nat) ({ cls := s37, name := s35, desc := "()Ljava/lang/Class;" } : Jvm.MethodName)) := wx hw 183 rfl
theorem wd184 {a0 Z} (hw : HW a0 Z) : B4 a0 Z (.declares ({ cls := s37, name := s35, desc := "()Ljava/lang/Class;" } : Jvm.MethodName)) := wx hw 184 rfl
theorem wd185 {a0 Z} (hw : HW a0 Z) : B4 a0 Z (.instanceMethod ({ cls := s37, name := s35, desc := "()Ljava/lang/Class;" } : Jvm.MethodName)) := wx hw 185 rfl
theorem wd186 {a0 Z} (hw : HW a0 Z) : B4 a0 Z (.selects s21 ({ cls := s37, name := s35, desc := "()Ljava/lang/Class;" } : Jvm.MethodName) ({ cls := s37, name := s35, desc := "()Ljava/lang/Class;" } : Jvm.MethodName)) := wx hw 186 rfl
theorem wd187 {a0 Z} (hw : HW a0 Z) : B4 a0 Z (.native ({ cls := s37, name := s35, desc := "()Ljava/lang/Class;" } : Jvm.MethodName)) := wx hw 187 rfl
theorem wd192 {a0 Z} (hw : HW a0 Z) : B4 a0 Z (.classLink s45 (110 : Nat) s21) := wx hw 192 rfl
theorem wd193 {a0 Z} (hw : HW a0 Z) : B4 a0 Z (.classLink s45 (2 : Nat) s37) := wx hw 193 rfl
theorem wd197 {a0 Z} (hw : HW a0 Z) : B4 a0 Z (.methodLink s45 (150 : Nat) ({ cls := s41, name := s23, desc := "(Ljava/lang/Object;ILjava/lang/Object;II)V" } : Jvm.MethodName)) := wx hw 197 rfl
theorem wd198 {a0 Z} (hw : HW a0 Z) : B4 a0 Z (.static ({ cls := s41, name := s23, desc := "(Ljava/lang/Object;ILjava/lang/Object;II)V" } : Jvm.MethodName)) := wx hw 198 rfl
theorem wd199 {a0 Z} (hw : HW a0 Z) : B4 a0 Z (.initialized s41) := wx hw 199 rfl
theorem wd200 {a0 Z} (hw : HW a0 Z) : B4 a0 Z (.native ({ cls := s41, name := s23, desc := "(Ljava/lang/Object;ILjava/lang/Object;II)V" } : Jvm.MethodName)) := wx hw 200 rfl
theorem wd204 {a0 Z} (hw : HW a0 Z) : B4 a0 Z (.classLink s52 (96 : Nat) s50) := wx hw 204 rfl
theorem wd205 {a0 Z} (hw : HW a0 Z) : B4 a0 Z (.instantiable s50 (2 : Nat)) := wx hw 205 rfl
theorem wd206 {a0 Z} (hw : HW a0 Z) : B4 a0 Z (.initialized s50) := wx hw 206 rfl
theorem wd229 {a0 Z} (hw : HW a0 Z) : B4 a0 Z (.fieldLink s50 (13 : Nat) s50 "e0" s10) := wx hw 229 rfl
theorem wd230 {a0 Z} (hw : HW a0 Z) : B4 a0 Z (.laysFinal s50 s50 "e0" s10) := wx hw 230 rfl
theorem wd231 {a0 Z} (hw : HW a0 Z) : B4 a0 Z (.fieldLinkNest s50 (19 : Nat) s47 "EMPTY" s10 s47) := wx hw 231 rfl
theorem wd232 {a0 Z} (hw : HW a0 Z) : B4 a0 Z (.fieldLink s50 (24 : Nat) s50 "e1" s10) := wx hw 232 rfl
theorem wd233 {a0 Z} (hw : HW a0 Z) : B4 a0 Z (.laysFinal s50 s50 "e1" s10) := wx hw 233 rfl
theorem wd234 {a0 Z} (hw : HW a0 Z) : B4 a0 Z (.fieldLink s27 (13 : Nat) s27 "id" s11) := wx hw 234 rfl
theorem wd235 {a0 Z} (hw : HW a0 Z) : B4 a0 Z (.laysFinal s27 s27 "id" s11) := wx hw 235 rfl
theorem wd236 {a0 Z} (hw : HW a0 Z) : B4 a0 Z (.fieldLink s27 (19 : Nat) s27 "name" s11) := wx hw 236 rfl
theorem wd237 {a0 Z} (hw : HW a0 Z) : B4 a0 Z (.laysFinal s27 s27 "name" s11) := wx hw 237 rfl
theorem wd238 {a0 Z} (hw : HW a0 Z) : B4 a0 Z (.fieldLink s27 (22 : Nat) s27 "basis" s9) := wx hw 238 rfl
theorem wd239 {a0 Z} (hw : HW a0 Z) : B4 a0 Z (.laysFinal s27 s27 "basis" s9) := wx hw 239 rfl
theorem wd240 {a0 Z} (hw : HW a0 Z) : B4 a0 Z (.fieldLink s27 (26 : Nat) s27 "onlyFor" s16) := wx hw 240 rfl
theorem wd241 {a0 Z} (hw : HW a0 Z) : B4 a0 Z (.laysFinal s27 s27 "onlyFor" s16) := wx hw 241 rfl
theorem wd242 {a0 Z} (hw : HW a0 Z) : B4 a0 Z (.fieldLink s27 (30 : Nat) s27 s24 s16) := wx hw 242 rfl
theorem wd243 {a0 Z} (hw : HW a0 Z) : B4 a0 Z (.laysFinal s27 s27 s24 s16) := wx hw 243 rfl
theorem wd244 {a0 Z} (hw : HW a0 Z) : B4 a0 Z (.fieldLink s27 (33 : Nat) s27 "prices" s15) := wx hw 244 rfl
theorem wd245 {a0 Z} (hw : HW a0 Z) : B4 a0 Z (.laysFinal s27 s27 "prices" s15) := wx hw 245 rfl
theorem wd249 {a0 Z} (hw : HW a0 Z) : B4 a0 Z (.selects s27 mn32 mn32) := wx hw 249 rfl
theorem wd251 {a0 Z} (hw : HW a0 Z) : B4 a0 Z (.classLink s27 (14 : Nat) s27) := wx hw 251 rfl
theorem wd256 {a0 Z} (hw : HW a0 Z) : B4 a0 Z (.fieldLink s52 (90 : Nat) s47 s4 s14) := wx hw 256 rfl
theorem wd260 {a0 Z} (hw : HW a0 Z) : B4 a0 Z (.selects s27 mn34 mn34) := wx hw 260 rfl
theorem wd265 {a0 Z} (hw : HW a0 Z) : B4 a0 Z (.selects s39 mn35 mn35) := wx hw 265 rfl
theorem wd270 {a0 Z} (hw : HW a0 Z) : B4 a0 Z (.selects s27 mn36 mn36) := wx hw 270 rfl
theorem wd275 {a0 Z} (hw : HW a0 Z) : B4 a0 Z (.selects s27 mn37 mn37) := wx hw 275 rfl
theorem wd280 {a0 Z} (hw : HW a0 Z) : B4 a0 Z (.selects s27 mn38 mn38) := wx hw 280 rfl
theorem wd285 {a0 Z} (hw : HW a0 Z) : B4 a0 Z (.selects s27 mn39 mn39) := wx hw 285 rfl
theorem wd290 {a0 Z} (hw : HW a0 Z) : B4 a0 Z (.selects s27 mn40 mn40) := wx hw 290 rfl
theorem wd303 {a0 Z} (hw : HW a0 Z) : B4 a0 Z (.initialized s51) := wx hw 303 rfl
theorem wd305 {a0 Z} (hw : HW a0 Z) : B4 a0 Z (.fieldLink s51 (7 : Nat) s51 s33 s21) := wx hw 305 rfl
theorem wd306 {a0 Z} (hw : HW a0 Z) : B4 a0 Z (.laysFinal s51 s51 s33 s21) := wx hw 306 rfl
theorem wd324 {a0 Z} (hw : HW a0 Z) : B4 a0 Z (.classLink s47 (2 : Nat) s37) := wx hw 324 rfl
theorem wd326 {a0 Z} (hw : HW a0 Z) : B4 a0 Z (.instantiable s51 (2 : Nat)) := wx hw 326 rfl
theorem wd335 {a0 Z} (hw : HW a0 Z) : B4 a0 Z (.fieldLink s51 (13 : Nat) s51 s22 "Z") := wx hw 335 rfl
theorem wd336 {a0 Z} (hw : HW a0 Z) : B4 a0 Z (.laysFinal s51 s51 s22 "Z") := wx hw 336 rfl
theorem d1_0 : DC cb1 0 (.aload_n 0) 1 := by decide +kernel
theorem d1_1 : DC cb1 1 (.invokespecial 1) 3 := by decide +kernel
theorem d2_0 : DC cb2 0 (.aload_n 0) 1 := by decide +kernel
theorem d2_1 : DC cb2 1 (.invokespecial 1) 3 := by decide +kernel
theorem d2_4 : DC cb2 4 (.return_) 1 := by decide +kernel
theorem ef_2_0 (m : MethodId) (x0 : Addr) : entryFrame m #[(.ref x0)] 1 = mkF m 0 #[.val (.ref x0)] [] := by first | (simp [entryFrame, mkF, argsToLocals, Value.category]; done) | rfl
theorem pn_0 : plainName "java/lang/Record" = true := by first | (simp [plainName, overriddenIn]; done) | decide +kernel
theorem rm2_0 (l : Launch) (Z : State) (a0 : Array Value) (hw : HW a0 Z) (a1 : Addr) (h0 : Heap) (n0 : Nat) (OL0 : Old Z n0 h0)  :
    MF l Z mn2 jdk_30_method_1_code 1 none ⟨1, 0, 0, 12⟩ #[(.ref a1)] h0 (QR n0 h0 (none)) := by
  refine own_start (plainFor_of_name pn_0) (fun m => (ef_2_0 m a1)) ?_
  intro p e s m below meth c s₁ hZ hx hby hml hown hnm hret X0 e0
  have N0 := Fr.nil n0
  obtain ⟨T2, X2, e2, st2⟩ := initO X0 hx hZ hown (wd11 hw) (wd12 hw) (wd13 hw) e0 (g := (mkF m 1 #[rv a1] [(.ref a1)])) rfl (by rw [hml]; rfl) rfl (hb hby d2_1) (by decide) (W := 0) (by show 2 * 0 + _ ≤ _; exact Nat.le_of_eq rfl) (by decide)
  refine ⟨none, _, _, _, _, _, X2, e2, by decide, fun _ => rfl, fun fs hr => ?_, ?_⟩
  · refine XS.aloadN X0.here hx rfl (hb hby d2_0) rfl rfl ?_
    show SS p e below s₁ m 1 #[rv a1] [(.ref a1)] _
    refine st2 _ ?_
    show SS p e below T2 m 4 #[rv a1] [] _
    exact X2.returnOut hx hret (hb hby d2_4) hr
  · exact ⟨rfl, N0, rfl⟩
theorem pd_0 : parseMethodDescriptor "()V" = some ⟨[], none⟩ := by decide +kernel
theorem cw0 {a0 Z} (hw : HW a0 Z) : CN a0 Z s29 1 mn2 0 (.code mn2 jdk_30_method_1_code 1 none) :=
  ⟨rfl, wx hw 6 rfl, wx hw 7 rfl, wx hw 10 rfl, wx hw 9 rfl, by decide, _, _, pd_0, rfl⟩
theorem d1_4 : DC cb1 4 (.aload_n 0) 1 := by decide +kernel
theorem d1_5 : DC cb1 5 (.aload_n 1) 1 := by decide +kernel
theorem d1_6 : DC cb1 6 (.putfield 7) 3 := by decide +kernel
theorem d1_9 : DC cb1 9 (.aload_n 0) 1 := by decide +kernel
theorem d1_10 : DC cb1 10 (.aload_n 2) 1 := by decide +kernel
theorem d1_11 : DC cb1 11 (.putfield 13) 3 := by decide +kernel
theorem d1_14 : DC cb1 14 (.aload_n 0) 1 := by decide +kernel
theorem d1_15 : DC cb1 15 (.aload_n 3) 1 := by decide +kernel
theorem d1_16 : DC cb1 16 (.putfield 17) 3 := by decide +kernel
theorem d1_19 : DC cb1 19 (.aload_n 0) 1 := by decide +kernel
theorem d1_20 : DC cb1 20 (.aload 4) 2 := by decide +kernel
theorem d1_22 : DC cb1 22 (.putfield 21) 3 := by decide +kernel
theorem d1_25 : DC cb1 25 (.return_) 1 := by decide +kernel
theorem ef_1_1 (m : MethodId) (x0 : Addr) : entryFrame m #[(.ref x0), .null, .null, .null, .null] 5 = mkF m 0 #[.val (.ref x0), .val .null, .val .null, .val .null, .val .null] [] := by first | (simp [entryFrame, mkF, argsToLocals, Value.category]; done) | rfl
theorem pn_1 : plainName "com/example/tarcal/tarcal/schedules/DatedPrice" = true := by first | (simp [plainName, overriddenIn]; done) | decide +kernel
theorem rm1_0 (l : Launch) (Z : State) (a0 : Array Value) (hw : HW a0 Z) (a1 : Addr) (h0 : Heap) (n0 : Nat) (OL0 : Old Z n0 h0) (pr1 : Exa Z h0 a1 s29) (pr2 : Fld Z h0 a1 s29 "price" s12 .null) (pr3 : n0 ≤ a1) (pr4 : Fld Z h0 a1 s29 s34 s13 .null) (pr5 : Fld Z h0 a1 s29 "lastDay" s16 .null) (pr6 : Fld Z h0 a1 s29 s31 s16 .null) :
    MF l Z mn1 prog_26_method_1_code 5 none ⟨2, 0, 0, 24⟩ #[(.ref a1), .null, .null, .null, .null] h0 (fun v h L => v = none ∧ Fr n0 L ∧ Keep h0 h [a1] ∧ Fld Z h a1 s29 "price" s12 .null ∧ Fld Z h a1 s29 s34 s13 .null ∧ Fld Z h a1 s29 "lastDay" s16 .null ∧ Fld Z h a1 s29 s31 s16 .null) := by
  refine own_start (plainFor_of_name pn_1) (fun m => (ef_1_1 m a1)) ?_
  intro p e s m below meth c s₁ hZ hx hby hml hown hnm hret X0 e0
  have N0 := Fr.nil n0
  obtain ⟨_, T2, L2, X2, hQ2, st2⟩ := own_cN X0 hx hZ hown hml (cw0 hw) (rm2_0 l Z a0 hw a1 h0 n0 OL0 ) e0 a1 1 #[rv a1, .val .null, .val .null, .val .null, .val .null] [] [] 0 rfl (hb hby d1_1) (by decide)
  obtain ⟨rfl, Nq2, ec2⟩ := hQ2
  have N2 := Fr.app N0 Nq2
  obtain ⟨T3, h3, X3, e3, W3, st3⟩ := putF X2 hx hZ hown (host := "") (Or.inl (wd14 hw)) Via.refl ec2 pr2 pr1 (Or.inr ⟨(wd15 hw), rfl, hnm⟩) (wd1 hw) (ty := (.object "java/math/BigDecimal")) (by decide) rfl rfl (g := (mkF m 6 #[rv a1, .val .null, .val .null, .val .null, .val .null] [.null, (.ref a1)])) rfl rfl (hb hby d1_6)
  have Fw3 := pr2.same W3
  have KK3 : Keep h0 h3 [a1] := (Keep.refl h0 [a1]).wr W3 (Or.inl (List.mem_of_getElem? (i := 0) rfl))
  have N3 := Fr.snoc X3 N2 pr3
  have fc4 := (pr1.wr W3)
  have fc5 := (pr4.other W3 (Or.inr (slot_ne (Or.inr (wd17 hw)) (Or.inr (wd15 hw)) (by decide) (t := (.object "java/time/LocalDate")) (t' := (.object "java/math/BigDecimal")) (by decide) (by decide))))
  obtain ⟨T6, h6, X6, e6, W6, st6⟩ := putF X3 hx hZ hown (host := "") (Or.inl (wd16 hw)) Via.refl e3 fc5 fc4 (Or.inr ⟨(wd17 hw), rfl, hnm⟩) (wd1 hw) (ty := (.object "java/time/LocalDate")) (by decide) rfl rfl (g := (mkF m 11 #[rv a1, .val .null, .val .null, .val .null, .val .null] [.null, (.ref a1)])) rfl rfl (hb hby d1_11)
  have Fw6 := fc5.same W6
  have KK6 : Keep h0 h6 [a1] := KK3.wr W6 (Or.inl (List.mem_of_getElem? (i := 0) rfl))
  have N6 := Fr.snoc X6 N3 pr3
  have fc7 := (fc4.wr W6)
  have fc8 := ((pr5.other W3 (Or.inr (slot_ne (Or.inr (wd19 hw)) (Or.inr (wd15 hw)) (by decide) (t := (.object s54)) (t' := (.object "java/math/BigDecimal")) (by decide) (by decide)))).other W6 (Or.inr (slot_ne (Or.inr (wd19 hw)) (Or.inr (wd17 hw)) (by decide) (t := (.object s54)) (t' := (.object "java/time/LocalDate")) (by decide) (by decide))))
  obtain ⟨T9, h9, X9, e9, W9, st9⟩ := putF X6 hx hZ hown (host := "") (Or.inl (wd18 hw)) Via.refl e6 fc8 fc7 (Or.inr ⟨(wd19 hw), rfl, hnm⟩) (wd1 hw) (ty := (.object s54)) (by decide) rfl rfl (g := (mkF m 16 #[rv a1, .val .null, .val .null, .val .null, .val .null] [.null, (.ref a1)])) rfl rfl (hb hby d1_16)
  have Fw9 := fc8.same W9
  have KK9 : Keep h0 h9 [a1] := KK6.wr W9 (Or.inl (List.mem_of_getElem? (i := 0) rfl))
  have N9 := Fr.snoc X9 N6 pr3
  have fc10 := (fc7.wr W9)
  have fc11 := (((pr6.other W3 (Or.inr (slot_ne (Or.inr (wd21 hw)) (Or.inr (wd15 hw)) (by decide) (t := (.object s54)) (t' := (.object "java/math/BigDecimal")) (by decide) (by decide)))).other W6 (Or.inr (slot_ne (Or.inr (wd21 hw)) (Or.inr (wd17 hw)) (by decide) (t := (.object s54)) (t' := (.object "java/time/LocalDate")) (by decide) (by decide)))).other W9 (Or.inr (slot_ne (Or.inr (wd21 hw)) (Or.inr (wd19 hw)) (by decide) (t := (.object s54)) (t' := (.object s54)) (by decide) (by decide))))
  obtain ⟨T12, h12, X12, e12, W12, st12⟩ := putF X9 hx hZ hown (host := "") (Or.inl (wd20 hw)) Via.refl e9 fc11 fc10 (Or.inr ⟨(wd21 hw), rfl, hnm⟩) (wd1 hw) (ty := (.object s54)) (by decide) rfl rfl (g := (mkF m 22 #[rv a1, .val .null, .val .null, .val .null, .val .null] [.null, (.ref a1)])) rfl rfl (hb hby d1_22)
  have Fw12 := fc11.same W12
  have KK12 : Keep h0 h12 [a1] := KK9.wr W12 (Or.inl (List.mem_of_getElem? (i := 0) rfl))
  have N12 := Fr.snoc X12 N9 pr3
  have fc13 := (((Fw3.other W6 (Or.inr (slot_ne (Or.inr (wd15 hw)) (Or.inr (wd17 hw)) (by decide) (t := (.object "java/math/BigDecimal")) (t' := (.object "java/time/LocalDate")) (by decide) (by decide)))).other W9 (Or.inr (slot_ne (Or.inr (wd15 hw)) (Or.inr (wd19 hw)) (by decide) (t := (.object "java/math/BigDecimal")) (t' := (.object s54)) (by decide) (by decide)))).other W12 (Or.inr (slot_ne (Or.inr (wd15 hw)) (Or.inr (wd21 hw)) (by decide) (t := (.object "java/math/BigDecimal")) (t' := (.object s54)) (by decide) (by decide))))
  have fc14 := ((Fw6.other W9 (Or.inr (slot_ne (Or.inr (wd17 hw)) (Or.inr (wd19 hw)) (by decide) (t := (.object "java/time/LocalDate")) (t' := (.object s54)) (by decide) (by decide)))).other W12 (Or.inr (slot_ne (Or.inr (wd17 hw)) (Or.inr (wd21 hw)) (by decide) (t := (.object "java/time/LocalDate")) (t' := (.object s54)) (by decide) (by decide))))
  have fc15 := (Fw9.other W12 (Or.inr (slot_ne (Or.inr (wd19 hw)) (Or.inr (wd21 hw)) (by decide) (t := (.object s54)) (t' := (.object s54)) (by decide) (by decide))))
  refine ⟨none, _, _, _, _, _, X12, e12, by decide, fun _ => rfl, fun fs hr => ?_, ?_⟩
  · refine XS.aloadN X0.here hx rfl (hb hby d1_0) rfl rfl ?_
    show SS p e below s₁ m 1 #[rv a1, .val .null, .val .null, .val .null, .val .null] [(.ref a1)] _
    refine st2 _ ?_
    refine XS.aloadN X2.here hx rfl (hb hby d1_4) rfl rfl ?_
    refine XS.aloadN X2.here hx rfl (hb hby d1_5) rfl rfl ?_
    refine st3 _ ?_
    refine XS.aloadN X3.here hx rfl (hb hby d1_9) rfl rfl ?_
    refine XS.aloadN X3.here hx rfl (hb hby d1_10) rfl rfl ?_
    refine st6 _ ?_
    refine XS.aloadN X6.here hx rfl (hb hby d1_14) rfl rfl ?_
    refine XS.aloadN X6.here hx rfl (hb hby d1_15) rfl rfl ?_
    refine st9 _ ?_
    show SS p e below T9 m 19 #[rv a1, .val .null, .val .null, .val .null, .val .null] [] _
    refine XS.aloadN X9.here hx rfl (hb hby d1_19) rfl rfl ?_
    refine XS.aload X9.here hx rfl (hb hby d1_20) rfl rfl ?_
    refine st12 _ ?_
    show SS p e below T12 m 25 #[rv a1, .val .null, .val .null, .val .null, .val .null] [] _
    exact X12.returnOut hx hret (hb hby d1_25) hr
  · exact ⟨rfl, N12, KK12, fc13, fc14, fc15, Fw12⟩
theorem pd_1 : parseMethodDescriptor "(Ljava/math/BigDecimal;Ljava/time/LocalDate;Ljava/util/Optional;Ljava/util/Optional;)V" = some ⟨[(.object "java/math/BigDecimal"), (.object "java/time/LocalDate"), (.object "java/util/Optional"), (.object "java/util/Optional")], none⟩ := by decide +kernel
theorem cw1 {a0 Z} (hw : HW a0 Z) : CN a0 Z s28 32 mn1 4 (.code mn1 prog_26_method_1_code 5 none) :=
  ⟨rfl, wx hw 3 rfl, wx hw 4 rfl, wx hw 5 rfl, wx hw 2 rfl, by decide, _, _, pd_1, rfl⟩
theorem d4_0 : DC cb4 0 (.aload_n 0) 1 := by decide +kernel
theorem d4_1 : DC cb4 1 (.aload_n 1) 1 := by decide +kernel
theorem d4_2 : DC cb4 2 (.iconst 0) 1 := by decide +kernel
theorem d4_3 : DC cb4 3 (.aload_n 1) 1 := by decide +kernel
theorem d4_4 : DC cb4 4 (.arraylength) 1 := by decide +kernel
theorem d4_5 : DC cb4 5 (.aconst_null) 1 := by decide +kernel
theorem d4_6 : DC cb4 6 (.invokespecial 27) 3 := by decide +kernel
theorem d5_0 : DC cb5 0 (.aload_n 0) 1 := by decide +kernel
theorem d5_1 : DC cb5 1 (.invokespecial 1) 3 := by decide +kernel
theorem d5_4 : DC cb5 4 (.iload_n 3) 1 := by decide +kernel
theorem d5_5 : DC cb5 5 (.ifCond .ne 22) 3 := by decide +kernel
theorem d5_27 : DC cb5 27 (.getstatic 38) 3 := by decide +kernel
theorem d5_30 : DC cb5 30 (.ifCond .eq 28) 3 := by decide +kernel
theorem d5_33 : DC cb5 33 (.aload_n 1) 1 := by decide +kernel
theorem d5_34 : DC cb5 34 (.iload_n 2) 1 := by decide +kernel
theorem d5_35 : DC cb5 35 (.iload_n 3) 1 := by decide +kernel
theorem d5_36 : DC cb5 36 (.invokestatic 177) 3 := by decide +kernel
theorem d6_0 : DC cb6 0 (.iload_n 2) 1 := by decide +kernel
theorem d6_1 : DC cb6 1 (.newarray .byte) 2 := by decide +kernel
theorem d6_3 : DC cb6 3 (.astore_n 3) 1 := by decide +kernel
theorem d6_4 : DC cb6 4 (.aload_n 0) 1 := by decide +kernel
theorem d6_5 : DC cb6 5 (.iload_n 1) 1 := by decide +kernel
theorem d6_6 : DC cb6 6 (.aload_n 3) 1 := by decide +kernel
theorem d6_7 : DC cb6 7 (.iconst 0) 1 := by decide +kernel
theorem d6_8 : DC cb6 8 (.iload_n 2) 1 := by decide +kernel
theorem d6_9 : DC cb6 9 (.invokestatic 115) 3 := by decide +kernel
theorem d7_0 : DC cb7 0 (.iconst 0) 1 := by decide +kernel
theorem d7_1 : DC cb7 1 (.istore 5) 2 := by decide +kernel
theorem d7_3 : DC cb7 3 (.iload 5) 2 := by decide +kernel
theorem d7_5 : DC cb7 5 (.iload 4) 2 := by decide +kernel
theorem d7_7 : DC cb7 7 (.if_icmp .ge 37) 3 := by decide +kernel
theorem d7_10 : DC cb7 10 (.aload_n 0) 1 := by decide +kernel
theorem d7_11 : DC cb7 11 (.iload_n 1) 1 := by decide +kernel
theorem d7_12 : DC cb7 12 (.caload) 1 := by decide +kernel
theorem d7_13 : DC cb7 13 (.istore 6) 2 := by decide +kernel
theorem d7_15 : DC cb7 15 (.iload 6) 2 := by decide +kernel
theorem d7_17 : DC cb7 17 (.sipush 255) 3 := by decide +kernel
theorem d7_20 : DC cb7 20 (.if_icmp .le 6) 3 := by decide +kernel
theorem d7_26 : DC cb7 26 (.aload_n 2) 1 := by decide +kernel
theorem d7_27 : DC cb7 27 (.iload_n 3) 1 := by decide +kernel
theorem d7_28 : DC cb7 28 (.iload 6) 2 := by decide +kernel
theorem d7_30 : DC cb7 30 (.i2b) 1 := by decide +kernel
theorem d7_31 : DC cb7 31 (.bastore) 1 := by decide +kernel
theorem d7_32 : DC cb7 32 (.iinc 1 1) 3 := by decide +kernel
theorem d7_35 : DC cb7 35 (.iinc 3 1) 3 := by decide +kernel
theorem d7_38 : DC cb7 38 (.iinc 5 1) 3 := by decide +kernel
theorem d7_41 : DC cb7 41 (.goto (-38)) 3 := by decide +kernel
theorem d7_44 : DC cb7 44 (.iload 4) 2 := by decide +kernel
theorem d7_46 : DC cb7 46 (.ireturn) 1 := by decide +kernel
theorem ef_7_2 (m : MethodId) (x0 : Addr) (x2 : Addr) : entryFrame m #[(.ref x0), (.int (0 : Int32)), (.ref x2), (.int (0 : Int32)), (.int (2 : Int32))] 7 = mkF m 0 #[.val (.ref x0), .val (.int (0 : Int32)), .val (.ref x2), .val (.int (0 : Int32)), .val (.int (2 : Int32)), .unset, .unset] [] := by first | (simp [entryFrame, mkF, argsToLocals, Value.category]; done) | rfl
theorem pn_2 : plainName "java/lang/StringUTF16" = true := by first | (simp [plainName, overriddenIn]; done) | decide +kernel
theorem rm7_0 (l : Launch) (Z : State) (a0 : Array Value) (hw : HW a0 Z) (a1 a2 : Addr) (p3 p4 : Int32) (k5 k7 : ClassId) (h0 : Heap) (n0 : Nat) (OL0 : Old Z n0 h0) (pr1 : Arv Z h0 a1 k5 .char (2 : Int32) [(.int p3), (.int p4)] (.int (0 : Int32))) (pr2 : ¬ ((255 : Int32) < p3)) (pr3 : Arv Z h0 a2 k7 .byte (2 : Int32) [(.int (0 : Int32)), (.int (0 : Int32))] (.int (0 : Int32))) (pr4 : n0 ≤ a2) (pr5 : a1 ≠ a2) (pr6 : ¬ ((255 : Int32) < p4)) :
    MF l Z mn7 jdk_52_method_21_code 7 (some .int) ⟨0, 0, 0, 0⟩ #[(.ref a1), (.int (0 : Int32)), (.ref a2), (.int (0 : Int32)), (.int (2 : Int32))] h0 (fun v h L => v = some (.int (2 : Int32)) ∧ Fr n0 L ∧ Keep h0 h [a2] ∧ Arv Z h a2 k7 .byte (2 : Int32) [(.int ((p3.toInt8.toInt32).toInt8.toInt32)), (.int ((p4.toInt8.toInt32).toInt8.toInt32))] (.int (0 : Int32))) := by
  refine own_start (plainFor_of_name pn_2) (fun m => (ef_7_2 m a1 a2)) ?_
  intro p e s m below meth c s₁ hZ hx hby hml hown hnm hret X0 e0
  have N0 := Fr.nil n0
  obtain ⟨cl6, Ar6, -, S6, -, Hs6, -⟩ := id pr1
  have hin6 : ¬ ((0 : Int32) < 0 ∨ cl6.slots.size ≤ ((0 : Int32)).toNatClampNeg) := inb_of S6 ⟨by decide, by decide⟩
  have hat6 : cl6.slots[((0 : Int32)).toNatClampNeg]? = some (.int p3) := Hs6.at hin6 rfl
  obtain ⟨cl8, Ar8, q8, S8, M8, Hs8, G8⟩ := id pr3
  have hin8 : ¬ ((0 : Int32) < 0 ∨ cl8.slots.size ≤ ((0 : Int32)).toNatClampNeg) := inb_of S8 ⟨by decide, by decide⟩
  obtain ⟨T9, h9, X9, e9, W9, st9⟩ := stB X0 hx hZ e0 Ar8 (j := (0 : Int32)) hin8 (g := (mkF m 31 #[rv a1, iv (0 : Int32), rv a2, iv (0 : Int32), iv (2 : Int32), iv (0 : Int32), iv p3] [(.int (p3.toInt8.toInt32)), (.int (0 : Int32)), (.ref a2)])) rfl rfl (hb hby d7_31)
  have V9 : Arv Z h9 a2 k7 .byte (2 : Int32) [(.int ((p3.toInt8.toInt32).toInt8.toInt32)), (.int (0 : Int32))] (.int (0 : Int32)) := Arv.set Ar8 q8 S8 M8 Hs8 G8 (fits_nar_byte _) W9 0 rfl (Nat.le_of_ble_eq_true rfl)
  have KK9 : Keep h0 h9 [a2] := (Keep.refl h0 [a2]).wr W9 (Or.inl (List.mem_of_getElem? (i := 0) rfl))
  have N9 := Fr.snoc X9 N0 pr4
  have fc10 := (pr1.other W9 pr5)
  obtain ⟨cl11, Ar11, -, S11, -, Hs11, -⟩ := id fc10
  have hin11 : ¬ ((1 : Int32) < 0 ∨ cl11.slots.size ≤ ((1 : Int32)).toNatClampNeg) := inb_of S11 ⟨by decide, by decide⟩
  have hat11 : cl11.slots[((1 : Int32)).toNatClampNeg]? = some (.int p4) := Hs11.at hin11 rfl
  obtain ⟨cl12, Ar12, q12, S12, M12, Hs12, G12⟩ := id V9
  have hin12 : ¬ ((1 : Int32) < 0 ∨ cl12.slots.size ≤ ((1 : Int32)).toNatClampNeg) := inb_of S12 ⟨by decide, by decide⟩
  obtain ⟨T13, h13, X13, e13, W13, st13⟩ := stB X9 hx hZ e9 Ar12 (j := (1 : Int32)) hin12 (g := (mkF m 31 #[rv a1, iv (1 : Int32), rv a2, iv (1 : Int32), iv (2 : Int32), iv (1 : Int32), iv p4] [(.int (p4.toInt8.toInt32)), (.int (1 : Int32)), (.ref a2)])) rfl rfl (hb hby d7_31)
  have V13 : Arv Z h13 a2 k7 .byte (2 : Int32) [(.int ((p3.toInt8.toInt32).toInt8.toInt32)), (.int ((p4.toInt8.toInt32).toInt8.toInt32))] (.int (0 : Int32)) := Arv.set Ar12 q12 S12 M12 Hs12 G12 (fits_nar_byte _) W13 1 rfl (Nat.le_of_ble_eq_true rfl)
  have KK13 : Keep h0 h13 [a2] := KK9.wr W13 (Or.inl (List.mem_of_getElem? (i := 0) rfl))
  have N13 := Fr.snoc X13 N9 pr4
  refine ⟨some (.int (2 : Int32)), _, _, _, _, _, X13, e13, by decide, nofun, fun fs hr => ?_, ?_⟩
  · refine XS.iconst X0.here hx rfl (hb hby d7_0) ?_
    show SS p e below s₁ m 1 #[rv a1, iv (0 : Int32), rv a2, iv (0 : Int32), iv (2 : Int32), uu, uu] [(.int (0 : Int32))] _
    refine XS.istore X0.here hx rfl (hb hby d7_1) rfl (l' := #[rv a1, iv (0 : Int32), rv a2, iv (0 : Int32), iv (2 : Int32), iv (0 : Int32), uu]) rfl ?_
    refine XS.iload X0.here hx rfl (hb hby d7_3) rfl ?_
    refine XS.iload X0.here hx rfl (hb hby d7_5) rfl ?_
    refine XS.icmpNo X0.here hx rfl (hb hby d7_7) rfl (tlt (by decide : (0 : Int32) < (2 : Int32))).2.1 ?_
    refine XS.aloadN X0.here hx rfl (hb hby d7_10) rfl rfl ?_
    refine XS.iloadN X0.here hx rfl (hb hby d7_11) rfl ?_
    refine X0.caload hx (j := (0 : Int32)) (v := (.int p3)) (by rw [e0]; exact Ar6.1) (State.isArrayOf_alike hZ.alike Ar6.2.1) Ar6.2.2 hin6 hat6 (g := (mkF m 12 #[rv a1, iv (0 : Int32), rv a2, iv (0 : Int32), iv (2 : Int32), iv (0 : Int32), uu] [(.int (0 : Int32)), (.ref a1)])) rfl rfl (hb hby d7_12) _ ?_
    refine XS.istore X0.here hx rfl (hb hby d7_13) rfl (l' := #[rv a1, iv (0 : Int32), rv a2, iv (0 : Int32), iv (2 : Int32), iv (0 : Int32), iv p3]) rfl ?_
    refine XS.iload X0.here hx rfl (hb hby d7_15) rfl ?_
    refine XS.sipush X0.here hx rfl (hb hby d7_17) ?_
    show SS p e below s₁ m 20 #[rv a1, iv (0 : Int32), rv a2, iv (0 : Int32), iv (2 : Int32), iv (0 : Int32), iv p3] [(.int (255 : Int32)), (.int p3)] _
    refine XS.icmpYes X0.here hx rfl (pc0 := 20) (pc' := 26) rfl (hb hby d7_20) rfl (flt pr2).2.2.2 (by decide) (by decide) ?_
    refine XS.aloadN X0.here hx rfl (hb hby d7_26) rfl rfl ?_
    refine XS.iloadN X0.here hx rfl (hb hby d7_27) rfl ?_
    refine XS.iload X0.here hx rfl (hb hby d7_28) rfl ?_
    refine XS.i2b X0.here hx rfl (hb hby d7_30) rfl ?_
    refine st9 _ ?_
    refine XS.iinc X9.here hx rfl (hb hby d7_32) rfl (l' := #[rv a1, .val (.int ((0 : Int32) + (1 : Int32))), rv a2, iv (0 : Int32), iv (2 : Int32), iv (0 : Int32), iv p3]) rfl ?_
    refine XS.iinc X9.here hx rfl (hb hby d7_35) rfl (l' := #[rv a1, iv (1 : Int32), rv a2, .val (.int ((0 : Int32) + (1 : Int32))), iv (2 : Int32), iv (0 : Int32), iv p3]) rfl ?_
    refine XS.iinc X9.here hx rfl (hb hby d7_38) rfl (l' := #[rv a1, iv (1 : Int32), rv a2, iv (1 : Int32), iv (2 : Int32), .val (.int ((0 : Int32) + (1 : Int32))), iv p3]) rfl ?_
    refine XS.goto X9.here hx rfl (pc0 := 41) (pc' := 3) rfl (hb hby d7_41) (by decide) (by decide) ?_
    show SS p e below T9 m 3 #[rv a1, iv (1 : Int32), rv a2, iv (1 : Int32), iv (2 : Int32), iv (1 : Int32), iv p3] [] _
    refine XS.iload X9.here hx rfl (hb hby d7_3) rfl ?_
    refine XS.iload X9.here hx rfl (hb hby d7_5) rfl ?_
    refine XS.icmpNo X9.here hx rfl (hb hby d7_7) rfl (tlt (by decide : (1 : Int32) < (2 : Int32))).2.1 ?_
    refine XS.aloadN X9.here hx rfl (hb hby d7_10) rfl rfl ?_
    refine XS.iloadN X9.here hx rfl (hb hby d7_11) rfl ?_
    refine X9.caload hx (j := (1 : Int32)) (v := (.int p4)) (by rw [e9]; exact Ar11.1) (State.isArrayOf_alike hZ.alike Ar11.2.1) Ar11.2.2 hin11 hat11 (g := (mkF m 12 #[rv a1, iv (1 : Int32), rv a2, iv (1 : Int32), iv (2 : Int32), iv (1 : Int32), iv p3] [(.int (1 : Int32)), (.ref a1)])) rfl rfl (hb hby d7_12) _ ?_
    refine XS.istore X9.here hx rfl (hb hby d7_13) rfl (l' := #[rv a1, iv (1 : Int32), rv a2, iv (1 : Int32), iv (2 : Int32), iv (1 : Int32), iv p4]) rfl ?_
    refine XS.iload X9.here hx rfl (hb hby d7_15) rfl ?_
    refine XS.sipush X9.here hx rfl (hb hby d7_17) ?_
    refine XS.icmpYes X9.here hx rfl (pc0 := 20) (pc' := 26) rfl (hb hby d7_20) rfl (flt pr6).2.2.2 (by decide) (by decide) ?_
    show SS p e below T9 m 26 #[rv a1, iv (1 : Int32), rv a2, iv (1 : Int32), iv (2 : Int32), iv (1 : Int32), iv p4] [] _
    refine XS.aloadN X9.here hx rfl (hb hby d7_26) rfl rfl ?_
    refine XS.iloadN X9.here hx rfl (hb hby d7_27) rfl ?_
    refine XS.iload X9.here hx rfl (hb hby d7_28) rfl ?_
    refine XS.i2b X9.here hx rfl (hb hby d7_30) rfl ?_
    refine st13 _ ?_
    refine XS.iinc X13.here hx rfl (hb hby d7_32) rfl (l' := #[rv a1, .val (.int ((1 : Int32) + (1 : Int32))), rv a2, iv (1 : Int32), iv (2 : Int32), iv (1 : Int32), iv p4]) rfl ?_
    refine XS.iinc X13.here hx rfl (hb hby d7_35) rfl (l' := #[rv a1, iv (2 : Int32), rv a2, .val (.int ((1 : Int32) + (1 : Int32))), iv (2 : Int32), iv (1 : Int32), iv p4]) rfl ?_
    refine XS.iinc X13.here hx rfl (hb hby d7_38) rfl (l' := #[rv a1, iv (2 : Int32), rv a2, iv (2 : Int32), iv (2 : Int32), .val (.int ((1 : Int32) + (1 : Int32))), iv p4]) rfl ?_
    refine XS.goto X13.here hx rfl (pc0 := 41) (pc' := 3) rfl (hb hby d7_41) (by decide) (by decide) ?_
    refine XS.iload X13.here hx rfl (hb hby d7_3) rfl ?_
    show SS p e below T13 m 5 #[rv a1, iv (2 : Int32), rv a2, iv (2 : Int32), iv (2 : Int32), iv (2 : Int32), iv p4] [(.int (2 : Int32))] _
    refine XS.iload X13.here hx rfl (hb hby d7_5) rfl ?_
    refine XS.icmpYes X13.here hx rfl (pc0 := 7) (pc' := 44) rfl (hb hby d7_7) rfl (flt (by decide : ¬ ((2 : Int32) < (2 : Int32)))).2.1 (by decide) (by decide) ?_
    refine XS.iload X13.here hx rfl (hb hby d7_44) rfl ?_
    show SS p e below T13 m 46 #[rv a1, iv (2 : Int32), rv a2, iv (2 : Int32), iv (2 : Int32), iv (2 : Int32), iv p4] [(.int (2 : Int32))] _
    exact retI X13 hx hret (hb hby d7_46) hr
  · exact ⟨rfl, N13, KK13, V13⟩
theorem pd_2 : parseMethodDescriptor "([CI[BII)I" = some ⟨[(.array .char), .int, (.array .byte), .int, .int], some .int⟩ := by decide +kernel
theorem cw2 {a0 Z} (hw : HW a0 Z) : CS a0 Z s40 115 mn7 5 (.code mn7 jdk_52_method_21_code 7 (some .int)) :=
  ⟨wx hw 40 rfl, wx hw 41 rfl, wx hw 42 rfl, wx hw 37 rfl, by decide, _, _, pd_2, rfl⟩
theorem d6_12 : DC cb6 12 (.istore 4) 2 := by decide +kernel
theorem d6_14 : DC cb6 14 (.iload 4) 2 := by decide +kernel
theorem d6_16 : DC cb6 16 (.iload_n 2) 1 := by decide +kernel
theorem d6_17 : DC cb6 17 (.if_icmp .eq 40) 3 := by decide +kernel
theorem d6_57 : DC cb6 57 (.aload_n 3) 1 := by decide +kernel
theorem d6_58 : DC cb6 58 (.areturn) 1 := by decide +kernel
theorem ef_6_3 (m : MethodId) (x0 : Addr) : entryFrame m #[(.ref x0), (.int (0 : Int32)), (.int (2 : Int32))] 6 = mkF m 0 #[.val (.ref x0), .val (.int (0 : Int32)), .val (.int (2 : Int32)), .unset, .unset, .unset] [] := by first | (simp [entryFrame, mkF, argsToLocals, Value.category]; done) | rfl
theorem rm6_0 (l : Launch) (Z : State) (a0 : Array Value) (hw : HW a0 Z) (a1 : Addr) (p3 p4 : Int32) (k5 : ClassId) (h0 : Heap) (n0 : Nat) (OL0 : Old Z n0 h0) (pr1 : Arv Z h0 a1 k5 .char (2 : Int32) [(.int p3), (.int p4)] (.int (0 : Int32))) (pr2 : ¬ ((255 : Int32) < p3)) (pr3 : ¬ ((255 : Int32) < p4)) :
    MF l Z mn6 jdk_52_method_16_code 6 (some (.array .byte)) ⟨1, 1, 2, 18⟩ #[(.ref a1), (.int (0 : Int32)), (.int (2 : Int32))] h0 (fun v h L => ∃ b2 : Addr, ∃ k2 : ClassId, v = some (.ref b2) ∧ Fr n0 L ∧ Keep h0 h [] ∧ h0.size ≤ b2 ∧ Arv Z h b2 k2 .byte (2 : Int32) [(.int ((p3.toInt8.toInt32).toInt8.toInt32)), (.int ((p4.toInt8.toInt32).toInt8.toInt32))] (.int (0 : Int32))) := by
  refine own_start (plainFor_of_name pn_2) (fun m => (ef_6_3 m a1)) ?_
  intro p e s m below meth c s₁ hZ hx hby hml hown hnm hret X0 e0
  have N0 := Fr.nil n0
  obtain ⟨T2, h2, k2, X2, e2, E2, A2, st2⟩ := newP (aty := .byte) X0 hx hZ (wd39 hw) e0 (g := (mkF m 1 #[rv a1, iv (0 : Int32), iv (2 : Int32), uu, uu, uu] [(.int (2 : Int32))])) rfl (hb hby d6_1) rfl (by decide) (cap := 2) (by decide) (by decide) (by decide) (by decide)
  obtain ⟨b2, g2⟩ : ∃ z, z = h0.size := ⟨_, rfl⟩
  rw [← g2] at A2 st2
  have V2 : Arv Z h2 b2 k2 .byte (2 : Int32) [(.int (0 : Int32)), (.int (0 : Int32))] (.int (0 : Int32)) := (Arv.new A2 (by decide)).pad (pad_rep [] (.int (0 : Int32)) 2)
  have g_b2 : n0 ≤ b2 := (Nat.le_trans (Nat.le_trans (Nat.le_of_eq OL0.1.symm) OL0.2.1) (Nat.le_of_eq g2.symm))
  have sz_b2 : h0.size ≤ b2 := (Nat.le_trans (Keep.refl h0 []).1 (Nat.le_of_eq g2.symm))
  have KK2 : Keep h0 h2 [] := (Keep.refl h0 []).ext E2
  have OL2 := OL0.ext E2
  have fc7 := (pr1.ext E2)
  have nz8 := nl pr1.lt sz_b2
  obtain ⟨_, T6, L6, X6, hQ6, st6⟩ := own_cS X2 hx hZ hown hml (cw2 hw) (rm7_0 l Z a0 hw a1 b2 p3 p4 k5 k2 h2 n0 OL2 fc7 pr2 V2 g_b2 nz8 pr3) e2 9 #[rv a1, iv (0 : Int32), iv (2 : Int32), rv b2, uu, uu] [(.ref a1), (.int (0 : Int32)), (.ref b2), (.int (0 : Int32)), (.int (2 : Int32))] [] 0 rfl (hb hby d6_9) (by decide)
  obtain ⟨rfl, Nq6, K6, u6_0⟩ := hQ6
  have KK6 : Keep h0 T6.heap [] := KK2.trans K6 (allS (Or.inr sz_b2) all0)
  have N6 := Fr.app N0 Nq6
  refine ⟨some (.ref b2), _, _, _, _, _, X6, rfl, by decide, nofun, fun fs hr => ?_, ?_⟩
  · refine XS.iloadN X0.here hx rfl (hb hby d6_0) rfl ?_
    show SS p e below s₁ m 1 #[rv a1, iv (0 : Int32), iv (2 : Int32), uu, uu, uu] [(.int (2 : Int32))] _
    refine st2 _ ?_
    refine XS.astoreN X2.here hx rfl (hb hby d6_3) rfl rfl (l' := #[rv a1, iv (0 : Int32), iv (2 : Int32), rv b2, uu, uu]) rfl ?_
    refine XS.aloadN X2.here hx rfl (hb hby d6_4) rfl rfl ?_
    refine XS.iloadN X2.here hx rfl (hb hby d6_5) rfl ?_
    refine XS.aloadN X2.here hx rfl (hb hby d6_6) rfl rfl ?_
    refine XS.iconst X2.here hx rfl (hb hby d6_7) ?_
    refine XS.iloadN X2.here hx rfl (hb hby d6_8) rfl ?_
    refine st6 _ ?_
    refine XS.istore X6.here hx rfl (hb hby d6_12) rfl (l' := #[rv a1, iv (0 : Int32), iv (2 : Int32), rv b2, iv (2 : Int32), uu]) rfl ?_
    refine XS.iload X6.here hx rfl (hb hby d6_14) rfl ?_
    show SS p e below T6 m 16 #[rv a1, iv (0 : Int32), iv (2 : Int32), rv b2, iv (2 : Int32), uu] [(.int (2 : Int32))] _
    refine XS.iloadN X6.here hx rfl (hb hby d6_16) rfl ?_
    refine XS.icmpYes X6.here hx rfl (pc0 := 17) (pc' := 57) rfl (hb hby d6_17) rfl (teq (rfl : (2 : Int32) = (2 : Int32))).1 (by decide) (by decide) ?_
    refine XS.aloadN X6.here hx rfl (hb hby d6_57) rfl rfl ?_
    show SS p e below T6 m 58 #[rv a1, iv (0 : Int32), iv (2 : Int32), rv b2, iv (2 : Int32), uu] [(.ref b2)] _
    exact own_retR X6 hx hret rfl rfl rfl (hb hby d6_58) hr
  · exact ⟨b2, k2, rfl, N6, KK6, sz_b2, u6_0⟩
theorem pd_3 : parseMethodDescriptor "([CII)[B" = some ⟨[(.array .char), .int, .int], some (.array .byte)⟩ := by decide +kernel
theorem cw3 {a0 Z} (hw : HW a0 Z) : CS a0 Z s39 177 mn6 3 (.code mn6 jdk_52_method_16_code 6 (some (.array .byte))) :=
  ⟨wx hw 35 rfl, wx hw 36 rfl, wx hw 38 rfl, wx hw 37 rfl, by decide, _, _, pd_3, rfl⟩
theorem d5_39 : DC cb5 39 (.astore 5) 2 := by decide +kernel
theorem d5_41 : DC cb5 41 (.aload_n 0) 1 := by decide +kernel
theorem d5_42 : DC cb5 42 (.aload 5) 2 := by decide +kernel
theorem d5_44 : DC cb5 44 (.iload_n 3) 1 := by decide +kernel
theorem d5_45 : DC cb5 45 (.invokestatic 47) 3 := by decide +kernel
theorem d8_0 : DC cb8 0 (.iload_n 1) 1 := by decide +kernel
theorem d8_1 : DC cb8 1 (.aload_n 0) 1 := by decide +kernel
theorem d8_2 : DC cb8 2 (.arraylength) 1 := by decide +kernel
theorem d8_3 : DC cb8 3 (.isub) 1 := by decide +kernel
theorem d8_4 : DC cb8 4 (.bipush 31) 2 := by decide +kernel
theorem d8_6 : DC cb8 6 (.iushr) 1 := by decide +kernel
theorem d8_7 : DC cb8 7 (.i2b) 1 := by decide +kernel
theorem d8_8 : DC cb8 8 (.ireturn) 1 := by decide +kernel
theorem ef_8_4 (m : MethodId) (x0 : Addr) : entryFrame m #[(.ref x0), (.int (2 : Int32))] 2 = mkF m 0 #[.val (.ref x0), .val (.int (2 : Int32))] [] := by first | (simp [entryFrame, mkF, argsToLocals, Value.category]; done) | rfl
theorem rm8_0 (l : Launch) (Z : State) (a0 : Array Value) (hw : HW a0 Z) (a1 : Addr) (p2 p3 : Int32) (k4 : ClassId) (h0 : Heap) (n0 : Nat) (OL0 : Old Z n0 h0) (pr1 : Arv Z h0 a1 k4 .byte (2 : Int32) [(.int p2), (.int p3)] (.int (0 : Int32))) :
    MF l Z mn8 jdk_52_method_15_code 2 (some .byte) ⟨0, 0, 0, 0⟩ #[(.ref a1), (.int (2 : Int32))] h0 (QR n0 h0 (some (.int (0 : Int32)))) := by
  refine own_start (plainFor_of_name pn_2) (fun m => (ef_8_4 m a1)) ?_
  intro p e s m below meth c s₁ hZ hx hby hml hown hnm hret X0 e0
  have N0 := Fr.nil n0
  obtain ⟨cl5, Ar5, -, Sz5, Nn5, -, -⟩ := id pr1
  refine ⟨some (.int (0 : Int32)), _, _, _, _, _, X0, e0, by decide, nofun, fun fs hr => ?_, ?_⟩
  · refine XS.iloadN X0.here hx rfl (hb hby d8_0) rfl ?_
    show SS p e below s₁ m 1 #[rv a1, iv (2 : Int32)] [(.int (2 : Int32))] _
    refine XS.aloadN X0.here hx rfl (hb hby d8_1) rfl rfl ?_
    refine X0.arraylength hx (by rw [e0]; exact Ar5.1) (State.isArrayOf_alike hZ.alike Ar5.2.1) (g := (mkF m 2 #[rv a1, iv (2 : Int32)] [(.ref a1), (.int (2 : Int32))])) rfl rfl (hb hby d8_2) _ ?_
    rw [len_of Sz5 Nn5]
    refine XS.isub X0.here hx rfl (hb hby d8_3) rfl ?_
    refine XS.bipush X0.here hx rfl (hb hby d8_4) ?_
    refine XS.iushr X0.here hx rfl (hb hby d8_6) rfl ?_
    refine XS.i2b X0.here hx rfl (hb hby d8_7) rfl ?_
    show SS p e below s₁ m 8 #[rv a1, iv (2 : Int32)] [(.int (0 : Int32))] _
    exact retN X0 hx (t := .byte) hret (by simp) (hb hby d8_8) hr
  · exact ⟨rfl, N0, rfl⟩
theorem pd_4 : parseMethodDescriptor "([BI)B" = some ⟨[(.array .byte), .int], some .byte⟩ := by decide +kernel
theorem cw4 {a0 Z} (hw : HW a0 Z) : CS a0 Z s39 47 mn8 2 (.code mn8 jdk_52_method_15_code 2 (some .byte)) :=
  ⟨wx hw 43 rfl, wx hw 44 rfl, wx hw 45 rfl, wx hw 37 rfl, by decide, _, _, pd_4, rfl⟩
theorem d5_48 : DC cb5 48 (.putfield 15) 3 := by decide +kernel
theorem d5_51 : DC cb5 51 (.aload_n 0) 1 := by decide +kernel
theorem d5_52 : DC cb5 52 (.aload 5) 2 := by decide +kernel
theorem d5_54 : DC cb5 54 (.putfield 9) 3 := by decide +kernel
theorem d5_57 : DC cb5 57 (.return_) 1 := by decide +kernel
theorem ef_5_5 (m : MethodId) (x0 : Addr) (x1 : Addr) : entryFrame m #[(.ref x0), (.ref x1), (.int (0 : Int32)), (.int (2 : Int32)), .null] 6 = mkF m 0 #[.val (.ref x0), .val (.ref x1), .val (.int (0 : Int32)), .val (.int (2 : Int32)), .val .null, .unset] [] := by first | (simp [entryFrame, mkF, argsToLocals, Value.category]; done) | rfl
theorem pn_3 : plainName "java/lang/String" = true := by first | (simp [plainName, overriddenIn]; done) | decide +kernel
theorem rm5_0 (l : Launch) (Z : State) (a0 : Array Value) (hw : HW a0 Z) (a1 a2 : Addr) (p4 p6 p7 : Int32) (k8 : ClassId) (h0 : Heap) (n0 : Nat) (OL0 : Old Z n0 h0) (pr1 : Sta Z Z.heap s39 s1 "Z" (.int p4)) (pr2 : ¬ (p4 = (0 : Int32))) (pr3 : Arv Z h0 a2 k8 .char (2 : Int32) [(.int p6), (.int p7)] (.int (0 : Int32))) (pr4 : ¬ ((255 : Int32) < p6)) (pr5 : ¬ ((255 : Int32) < p7)) (pr6 : Exa Z h0 a1 s39) (pr7 : Fld Z h0 a1 s39 "coder" "B" (.int (0 : Int32))) (pr8 : n0 ≤ a1) (pr9 : Fld Z h0 a1 s39 "value" "[B" .null) :
    MF l Z mn5 jdk_42_method_149_code 6 none ⟨2, 1, 2, 35⟩ #[(.ref a1), (.ref a2), (.int (0 : Int32)), (.int (2 : Int32)), .null] h0 (fun v h L => ∃ b9_0 : Addr, ∃ kx9_0 : ClassId, v = none ∧ Fr n0 L ∧ Keep h0 h [a1] ∧ h0.size ≤ b9_0 ∧ Fld Z h a1 s39 "coder" "B" (.int (0 : Int32)) ∧ Fld Z h a1 s39 "value" "[B" (.ref b9_0) ∧ Arv Z h b9_0 kx9_0 .byte (2 : Int32) [(.int ((p6.toInt8.toInt32).toInt8.toInt32)), (.int ((p7.toInt8.toInt32).toInt8.toInt32))] (.int (0 : Int32))) := by
  refine own_start (plainFor_of_name pn_3) (fun m => (ef_5_5 m a1 a2)) ?_
  intro p e s m below meth c s₁ hZ hx hby hml hown hnm hret X0 e0
  have N0 := Fr.nil n0
  obtain ⟨T3, X3, e3, st3⟩ := initO X0 hx hZ hown (wd33 hw) (wd12 hw) (wd13 hw) e0 (g := (mkF m 1 #[rv a1, rv a2, iv (0 : Int32), iv (2 : Int32), .val .null, uu] [(.ref a1)])) rfl (by rw [hml]; rfl) rfl (hb hby d5_1) (by decide) (W := 0) (by show 2 * 0 + _ ≤ _; exact Nat.le_of_eq rfl) (by decide)
  obtain ⟨T5, X5, e5, st5⟩ := getS2 X3 hx hZ hown (host := "") (Or.inl (wd34 hw)) Via.refl e3 (pr1.ext OL0.2) (g := (mkF m 27 #[rv a1, rv a2, iv (0 : Int32), iv (2 : Int32), .val .null, uu] [])) rfl (hb hby d5_27)
  obtain ⟨_, T9, L9, X9, hQ9, st9⟩ := own_cS X5 hx hZ hown hml (cw3 hw) (rm6_0 l Z a0 hw a2 p6 p7 k8 h0 n0 OL0 pr3 pr4 pr5) e5 36 #[rv a1, rv a2, iv (0 : Int32), iv (2 : Int32), .val .null, uu] [(.ref a2), (.int (0 : Int32)), (.int (2 : Int32))] [] 0 rfl (hb hby d5_36) (by decide)
  obtain ⟨b9_0, kx9_0, rfl, Nq9, K9, u9_0, u9_1⟩ := hQ9
  have KK9 : Keep h0 T9.heap [a1] := (Keep.refl h0 [a1]).trans K9 all0
  have OL9 := OL0.keep K9 all0
  have sz_b9_0 : h0.size ≤ b9_0 := Nat.le_trans (Keep.refl h0 [a1]).1 u9_0
  have N9 := Fr.app N0 Nq9
  obtain ⟨_, T10, L10, X10, hQ10, st10⟩ := own_cS X9 hx hZ hown hml (cw4 hw) (rm8_0 l Z a0 hw b9_0 ((p6.toInt8.toInt32).toInt8.toInt32) ((p7.toInt8.toInt32).toInt8.toInt32) kx9_0 T9.heap n0 OL9 u9_1) rfl 45 #[rv a1, rv a2, iv (0 : Int32), iv (2 : Int32), .val .null, rv b9_0] [(.ref b9_0), (.int (2 : Int32))] [(.ref a1)] 1 rfl (hb hby d5_45) (by decide)
  obtain ⟨rfl, Nq10, ec10⟩ := hQ10
  have N10 := Fr.app N9 Nq10
  have fc11 := (pr6.keep K9)
  have fc12 := (pr7.keep K9 nin0)
  obtain ⟨T13, h13, X13, e13, W13, st13⟩ := putFN X10 hx hZ hown (wd46 hw) Via.refl ec10 fc12 fc11 (Or.inr ⟨(wd47 hw), rfl, hnm⟩) (wd23 hw) (ty := .byte) (v' := (.int (0 : Int32))) (by decide) rfl rfl (g := (mkF m 48 #[rv a1, rv a2, iv (0 : Int32), iv (2 : Int32), .val .null, rv b9_0] [(.int (0 : Int32)), (.ref a1)])) rfl rfl (hb hby d5_48)
  have Fw13 := fc12.same W13
  have KK13 : Keep h0 h13 [a1] := KK9.wr W13 (Or.inl (List.mem_of_getElem? (i := 0) rfl))
  have N13 := Fr.snoc X13 N10 pr8
  have fc14 := (fc11.wr W13)
  have fc15 := ((pr9.keep K9 nin0).other W13 (Or.inr (slot_ne (Or.inr (wd49 hw)) (Or.inr (wd47 hw)) (by decide) (t := (.array .byte)) (t' := .byte) (by decide) (by decide))))
  obtain ⟨T16, h16, X16, e16, W16, st16⟩ := putF X13 hx hZ hown (host := "") (Or.inl (wd48 hw)) Via.refl e13 fc15 fc14 (Or.inr ⟨(wd49 hw), rfl, hnm⟩) (wd23 hw) (ty := (.array .byte)) (by decide) rfl rfl (g := (mkF m 54 #[rv a1, rv a2, iv (0 : Int32), iv (2 : Int32), .val .null, rv b9_0] [(.ref b9_0), (.ref a1)])) rfl rfl (hb hby d5_54)
  have Fw16 := fc15.same W16
  have KK16 : Keep h0 h16 [a1] := KK13.wr W16 (Or.inl (List.mem_of_getElem? (i := 0) rfl))
  have N16 := Fr.snoc X16 N13 pr8
  have fc17 := (Fw13.other W16 (Or.inr (slot_ne (Or.inr (wd47 hw)) (Or.inr (wd49 hw)) (by decide) (t := .byte) (t' := (.array .byte)) (by decide) (by decide))))
  have nz18 := nl pr9.lt sz_b9_0
  have fc19 := ((u9_1.other W13 (Ne.symm nz18)).other W16 (Ne.symm nz18))
  refine ⟨none, _, _, _, _, _, X16, e16, by decide, fun _ => rfl, fun fs hr => ?_, ?_⟩
  · refine XS.aloadN X0.here hx rfl (hb hby d5_0) rfl rfl ?_
    show SS p e below s₁ m 1 #[rv a1, rv a2, iv (0 : Int32), iv (2 : Int32), .val .null, uu] [(.ref a1)] _
    refine st3 _ ?_
    refine XS.iloadN X3.here hx rfl (hb hby d5_4) rfl ?_
    refine XS.ifYes X3.here hx rfl (pc0 := 5) (pc' := 27) rfl (hb hby d5_5) rfl ((if0 _ _).trans (feq (by decide : ¬ ((2 : Int32) = (0 : Int32)))).2) (by decide) (by decide) ?_
    refine st5 _ ?_
    refine XS.ifNo X5.here hx rfl (hb hby d5_30) rfl ((if0 _ _).trans (feq pr2).1) ?_
    refine XS.aloadN X5.here hx rfl (hb hby d5_33) rfl rfl ?_
    refine XS.iloadN X5.here hx rfl (hb hby d5_34) rfl ?_
    refine XS.iloadN X5.here hx rfl (hb hby d5_35) rfl ?_
    refine st9 _ ?_
    refine XS.astore X9.here hx rfl (hb hby d5_39) rfl rfl (l' := #[rv a1, rv a2, iv (0 : Int32), iv (2 : Int32), .val .null, rv b9_0]) rfl ?_
    show SS p e below T9 m 41 #[rv a1, rv a2, iv (0 : Int32), iv (2 : Int32), .val .null, rv b9_0] [] _
    refine XS.aloadN X9.here hx rfl (hb hby d5_41) rfl rfl ?_
    refine XS.aload X9.here hx rfl (hb hby d5_42) rfl rfl ?_
    refine XS.iloadN X9.here hx rfl (hb hby d5_44) rfl ?_
    refine st10 _ ?_
    refine st13 _ ?_
    refine XS.aloadN X13.here hx rfl (hb hby d5_51) rfl rfl ?_
    refine XS.aload X13.here hx rfl (hb hby d5_52) rfl rfl ?_
    refine st16 _ ?_
    show SS p e below T16 m 57 #[rv a1, rv a2, iv (0 : Int32), iv (2 : Int32), .val .null, rv b9_0] [] _
    exact X16.returnOut hx hret (hb hby d5_57) hr
  · exact ⟨b9_0, kx9_0, rfl, N16, KK16, sz_b9_0, fc17, Fw16, fc19⟩
theorem pd_5 : parseMethodDescriptor "([CIILjava/lang/Void;)V" = some ⟨[(.array .char), .int, .int, (.object "java/lang/Void")], none⟩ := by decide +kernel
theorem cw5 {a0 Z} (hw : HW a0 Z) : CN a0 Z s39 27 mn5 4 (.code mn5 jdk_42_method_149_code 6 none) :=
  ⟨rfl, wx hw 29 rfl, wx hw 30 rfl, wx hw 32 rfl, wx hw 24 rfl, by decide, _, _, pd_5, rfl⟩
theorem d4_9 : DC cb4 9 (.return_) 1 := by decide +kernel
theorem ef_4_6 (m : MethodId) (x0 : Addr) (x1 : Addr) : entryFrame m #[(.ref x0), (.ref x1)] 2 = mkF m 0 #[.val (.ref x0), .val (.ref x1)] [] := by first | (simp [entryFrame, mkF, argsToLocals, Value.category]; done) | rfl
theorem rm4_0 (l : Launch) (Z : State) (a0 : Array Value) (hw : HW a0 Z) (a1 a2 : Addr) (p3 p4 : Int32) (k5 : ClassId) (p7 : Int32) (h0 : Heap) (n0 : Nat) (OL0 : Old Z n0 h0) (pr1 : Arv Z h0 a2 k5 .char (2 : Int32) [(.int p3), (.int p4)] (.int (0 : Int32))) (pr2 : Sta Z Z.heap s39 s1 "Z" (.int p7)) (pr3 : ¬ (p7 = (0 : Int32))) (pr4 : ¬ ((255 : Int32) < p3)) (pr5 : ¬ ((255 : Int32) < p4)) (pr6 : Exa Z h0 a1 s39) (pr7 : Fld Z h0 a1 s39 "coder" "B" (.int (0 : Int32))) (pr8 : n0 ≤ a1) (pr9 : Fld Z h0 a1 s39 "value" "[B" .null) :
    MF l Z mn4 jdk_42_method_3_code 2 none ⟨3, 1, 2, 52⟩ #[(.ref a1), (.ref a2)] h0 (fun v h L => ∃ b8_0 : Addr, ∃ kx8_0 : ClassId, v = none ∧ Fr n0 L ∧ Keep h0 h [a1] ∧ h0.size ≤ b8_0 ∧ Fld Z h a1 s39 "coder" "B" (.int (0 : Int32)) ∧ Fld Z h a1 s39 "value" "[B" (.ref b8_0) ∧ Arv Z h b8_0 kx8_0 .byte (2 : Int32) [(.int ((p3.toInt8.toInt32).toInt8.toInt32)), (.int ((p4.toInt8.toInt32).toInt8.toInt32))] (.int (0 : Int32))) := by
  refine own_start (plainFor_of_name pn_3) (fun m => (ef_4_6 m a1 a2)) ?_
  intro p e s m below meth c s₁ hZ hx hby hml hown hnm hret X0 e0
  have N0 := Fr.nil n0
  obtain ⟨cl6, Ar6, -, Sz6, Nn6, -, -⟩ := id pr1
  obtain ⟨_, T8, L8, X8, hQ8, st8⟩ := own_cN X0 hx hZ hown hml (cw5 hw) (rm5_0 l Z a0 hw a1 a2 p7 p3 p4 k5 h0 n0 OL0 pr2 pr3 pr1 pr4 pr5 pr6 pr7 pr8 pr9) e0 a1 6 #[rv a1, rv a2] [(.ref a2), (.int (0 : Int32)), (.int (2 : Int32)), .null] [] 0 rfl (hb hby d4_6) (by decide)
  obtain ⟨b8_0, kx8_0, rfl, Nq8, K8, u8_0, u8_1, u8_2, u8_3⟩ := hQ8
  have KK8 : Keep h0 T8.heap [a1] := (Keep.refl h0 [a1]).trans K8 (allS (Or.inl (List.mem_of_getElem? (i := 0) rfl)) all0)
  have sz_b8_0 : h0.size ≤ b8_0 := Nat.le_trans (Keep.refl h0 [a1]).1 u8_0
  have N8 := Fr.app N0 Nq8
  refine ⟨none, _, _, _, _, _, X8, rfl, by decide, fun _ => rfl, fun fs hr => ?_, ?_⟩
  · refine XS.aloadN X0.here hx rfl (hb hby d4_0) rfl rfl ?_
    show SS p e below s₁ m 1 #[rv a1, rv a2] [(.ref a1)] _
    refine XS.aloadN X0.here hx rfl (hb hby d4_1) rfl rfl ?_
    refine XS.iconst X0.here hx rfl (hb hby d4_2) ?_
    refine XS.aloadN X0.here hx rfl (hb hby d4_3) rfl rfl ?_
    refine X0.arraylength hx (by rw [e0]; exact Ar6.1) (State.isArrayOf_alike hZ.alike Ar6.2.1) (g := (mkF m 4 #[rv a1, rv a2] [(.ref a2), (.int (0 : Int32)), (.ref a2), (.ref a1)])) rfl rfl (hb hby d4_4) _ ?_
    rw [len_of Sz6 Nn6]
    refine XS.aconstNull X0.here hx rfl (hb hby d4_5) ?_
    refine st8 _ ?_
    show SS p e below T8 m 9 #[rv a1, rv a2] [] _
    exact X8.returnOut hx hret (hb hby d4_9) hr
  · exact ⟨b8_0, kx8_0, rfl, N8, KK8, sz_b8_0, u8_1, u8_2, u8_3⟩
theorem pd_6 : parseMethodDescriptor "([C)V" = some ⟨[(.array .char)], none⟩ := by decide +kernel
theorem cw6 {a0 Z} (hw : HW a0 Z) : CN a0 Z s28 37 mn4 1 (.code mn4 jdk_42_method_3_code 2 none) :=
  ⟨rfl, wx hw 26 rfl, wx hw 27 rfl, wx hw 28 rfl, wx hw 24 rfl, by decide, _, _, pd_6, rfl⟩
theorem d9_0 : DC cb9 0 (.iload_n 0) 1 := by decide +kernel
theorem d9_1 : DC cb9 1 (.iconst 3) 1 := by decide +kernel
theorem d9_2 : DC cb9 2 (.iand) 1 := by decide +kernel
theorem d9_3 : DC cb9 3 (.istore_n 3) 1 := by decide +kernel
theorem d9_4 : DC cb9 4 (.new 7) 3 := by decide +kernel
theorem d9_7 : DC cb9 7 (.dup) 1 := by decide +kernel
theorem d9_8 : DC cb9 8 (.invokespecial 9) 3 := by decide +kernel
theorem d10_0 : DC cb10 0 (.aload_n 0) 1 := by decide +kernel
theorem d10_1 : DC cb10 1 (.invokespecial 1) 3 := by decide +kernel
theorem d11_0 : DC cb11 0 (.aload_n 0) 1 := by decide +kernel
theorem d11_1 : DC cb11 1 (.invokespecial 1) 3 := by decide +kernel
theorem d12_0 : DC cb12 0 (.aload_n 0) 1 := by decide +kernel
theorem d12_1 : DC cb12 1 (.invokespecial 1) 3 := by decide +kernel
theorem d12_4 : DC cb12 4 (.return_) 1 := by decide +kernel
theorem ef_12_7 (m : MethodId) (x0 : Addr) : entryFrame m #[(.ref x0)] 1 = mkF m 0 #[.val (.ref x0)] [] := by first | (simp [entryFrame, mkF, argsToLocals, Value.category]; done) | rfl
theorem pn_4 : plainName "java/util/AbstractCollection" = true := by first | (simp [plainName, overriddenIn]; done) | decide +kernel
theorem rm12_0 (l : Launch) (Z : State) (a0 : Array Value) (hw : HW a0 Z) (a1 : Addr) (h0 : Heap) (n0 : Nat) (OL0 : Old Z n0 h0)  :
    MF l Z mn12 jdk_22_method_1_code 1 none ⟨1, 0, 0, 12⟩ #[(.ref a1)] h0 (QR n0 h0 (none)) := by
  refine own_start (plainFor_of_name pn_4) (fun m => (ef_12_7 m a1)) ?_
  intro p e s m below meth c s₁ hZ hx hby hml hown hnm hret X0 e0
  have N0 := Fr.nil n0
  obtain ⟨T2, X2, e2, st2⟩ := initO X0 hx hZ hown (wd101 hw) (wd12 hw) (wd13 hw) e0 (g := (mkF m 1 #[rv a1] [(.ref a1)])) rfl (by rw [hml]; rfl) rfl (hb hby d12_1) (by decide) (W := 0) (by show 2 * 0 + _ ≤ _; exact Nat.le_of_eq rfl) (by decide)
  refine ⟨none, _, _, _, _, _, X2, e2, by decide, fun _ => rfl, fun fs hr => ?_, ?_⟩
  · refine XS.aloadN X0.here hx rfl (hb hby d12_0) rfl rfl ?_
    show SS p e below s₁ m 1 #[rv a1] [(.ref a1)] _
    refine st2 _ ?_
    show SS p e below T2 m 4 #[rv a1] [] _
    exact X2.returnOut hx hret (hb hby d12_4) hr
  · exact ⟨rfl, N0, rfl⟩
theorem cw7 {a0 Z} (hw : HW a0 Z) : CN a0 Z s43 1 mn12 0 (.code mn12 jdk_22_method_1_code 1 none) :=
  ⟨rfl, wx hw 95 rfl, wx hw 96 rfl, wx hw 100 rfl, wx hw 99 rfl, by decide, _, _, pd_0, rfl⟩
theorem d11_4 : DC cb11 4 (.aload_n 0) 1 := by decide +kernel
theorem d11_5 : DC cb11 5 (.iconst 0) 1 := by decide +kernel
theorem d11_6 : DC cb11 6 (.putfield 7) 3 := by decide +kernel
theorem d11_9 : DC cb11 9 (.return_) 1 := by decide +kernel
theorem ef_11_8 (m : MethodId) (x0 : Addr) : entryFrame m #[(.ref x0)] 1 = mkF m 0 #[.val (.ref x0)] [] := by first | (simp [entryFrame, mkF, argsToLocals, Value.category]; done) | rfl
theorem pn_5 : plainName "java/util/AbstractList" = true := by first | (simp [plainName, overriddenIn]; done) | decide +kernel
theorem rm11_0 (l : Launch) (Z : State) (a0 : Array Value) (hw : HW a0 Z) (a1 : Addr) (h0 : Heap) (n0 : Nat) (OL0 : Old Z n0 h0) (pr1 : Exa Z h0 a1 s44) (pr2 : Fld Z h0 a1 s43 s57 "I" (.int (0 : Int32))) (pr3 : n0 ≤ a1) (pr4 : Fld Z h0 a1 s44 s32 s21 .null) (pr5 : Fld Z h0 a1 s44 "size" "I" (.int (0 : Int32))) :
    MF l Z mn11 jdk_39_method_1_code 1 none ⟨2, 0, 0, 24⟩ #[(.ref a1)] h0 (fun v h L => v = none ∧ Fr n0 L ∧ Keep h0 h [a1] ∧ Fld Z h a1 s43 s57 "I" (.int (0 : Int32)) ∧ Fld Z h a1 s44 s32 s21 .null ∧ Fld Z h a1 s44 "size" "I" (.int (0 : Int32))) := by
  refine own_start (plainFor_of_name pn_5) (fun m => (ef_11_8 m a1)) ?_
  intro p e s m below meth c s₁ hZ hx hby hml hown hnm hret X0 e0
  have N0 := Fr.nil n0
  obtain ⟨_, T2, L2, X2, hQ2, st2⟩ := own_cN X0 hx hZ hown hml (cw7 hw) (rm12_0 l Z a0 hw a1 h0 n0 OL0 ) e0 a1 1 #[rv a1] [] [] 0 rfl (hb hby d11_1) (by decide)
  obtain ⟨rfl, Nq2, ec2⟩ := hQ2
  have N2 := Fr.app N0 Nq2
  obtain ⟨T3, h3, X3, e3, W3, st3⟩ := putF X2 hx hZ hown (host := "") (Or.inl (wd102 hw)) Via.refl ec2 pr2 pr1 (Or.inl (wd103 hw)) (wd84 hw) (ty := .int) (by decide) rfl rfl (g := (mkF m 6 #[rv a1] [(.int (0 : Int32)), (.ref a1)])) rfl rfl (hb hby d11_6)
  have Fw3 := pr2.same W3
  have KK3 : Keep h0 h3 [a1] := (Keep.refl h0 [a1]).wr W3 (Or.inl (List.mem_of_getElem? (i := 0) rfl))
  have N3 := Fr.snoc X3 N2 pr3
  have fc4 := (pr4.other W3 (Or.inr (slot_ne (Or.inl (wd106 hw)) (Or.inl (wd103 hw)) (by decide) (t := (.array (.object s37))) (t' := .int) (by decide) (by decide))))
  have fc5 := (pr5.other W3 (Or.inr (slot_ne (Or.inl (wd118 hw)) (Or.inl (wd103 hw)) (by decide) (t := .int) (t' := .int) (by decide) (by decide))))
  refine ⟨none, _, _, _, _, _, X3, e3, by decide, fun _ => rfl, fun fs hr => ?_, ?_⟩
  · refine XS.aloadN X0.here hx rfl (hb hby d11_0) rfl rfl ?_
    show SS p e below s₁ m 1 #[rv a1] [(.ref a1)] _
    refine st2 _ ?_
    refine XS.aloadN X2.here hx rfl (hb hby d11_4) rfl rfl ?_
    refine XS.iconst X2.here hx rfl (hb hby d11_5) ?_
    refine st3 _ ?_
    show SS p e below T3 m 9 #[rv a1] [] _
    exact X3.returnOut hx hret (hb hby d11_9) hr
  · exact ⟨rfl, N3, KK3, Fw3, fc4, fc5⟩
theorem cw8 {a0 Z} (hw : HW a0 Z) : CN a0 Z s44 1 mn11 0 (.code mn11 jdk_39_method_1_code 1 none) :=
  ⟨rfl, wx hw 89 rfl, wx hw 90 rfl, wx hw 94 rfl, wx hw 93 rfl, by decide, _, _, pd_0, rfl⟩
theorem d10_4 : DC cb10 4 (.aload_n 0) 1 := by decide +kernel
theorem d10_5 : DC cb10 5 (.getstatic 39) 3 := by decide +kernel
theorem d10_8 : DC cb10 8 (.putfield 9) 3 := by decide +kernel
theorem d10_11 : DC cb10 11 (.return_) 1 := by decide +kernel
theorem ef_10_9 (m : MethodId) (x0 : Addr) : entryFrame m #[(.ref x0)] 1 = mkF m 0 #[.val (.ref x0)] [] := by first | (simp [entryFrame, mkF, argsToLocals, Value.category]; done) | rfl
theorem pn_6 : plainName "java/util/ArrayList" = true := by first | (simp [plainName, overriddenIn]; done) | decide +kernel
theorem rm10_0 (l : Launch) (Z : State) (a0 : Array Value) (hw : HW a0 Z) (a1 w3 : Addr) (h0 : Heap) (n0 : Nat) (OL0 : Old Z n0 h0) (pr1 : Exa Z h0 a1 s44) (pr2 : Fld Z h0 a1 s43 s57 "I" (.int (0 : Int32))) (pr3 : n0 ≤ a1) (pr4 : Fld Z h0 a1 s44 s32 s21 .null) (pr5 : Fld Z h0 a1 s44 "size" "I" (.int (0 : Int32))) (pr6 : Sta Z Z.heap s44 s2 s21 (.ref w3)) :
    MF l Z mn10 jdk_38_method_2_code 1 none ⟨3, 0, 0, 36⟩ #[(.ref a1)] h0 (fun v h L => v = none ∧ Fr n0 L ∧ Keep h0 h [a1] ∧ Fld Z h a1 s43 s57 "I" (.int (0 : Int32)) ∧ Fld Z h a1 s44 s32 s21 (.ref w3) ∧ Fld Z h a1 s44 "size" "I" (.int (0 : Int32))) := by
  refine own_start (plainFor_of_name pn_6) (fun m => (ef_10_9 m a1)) ?_
  intro p e s m below meth c s₁ hZ hx hby hml hown hnm hret X0 e0
  have N0 := Fr.nil n0
  obtain ⟨_, T2, L2, X2, hQ2, st2⟩ := own_cN X0 hx hZ hown hml (cw8 hw) (rm11_0 l Z a0 hw a1 h0 n0 OL0 pr1 pr2 pr3 pr4 pr5) e0 a1 1 #[rv a1] [] [] 0 rfl (hb hby d10_1) (by decide)
  obtain ⟨rfl, Nq2, K2, u2_0, u2_1, u2_2⟩ := hQ2
  have KK2 : Keep h0 T2.heap [a1] := (Keep.refl h0 [a1]).trans K2 (allS (Or.inl (List.mem_of_getElem? (i := 0) rfl)) all0)
  have OL2 := OL0.keep K2 (allS pr3 all0)
  have N2 := Fr.app N0 Nq2
  obtain ⟨T4, X4, e4, st4⟩ := getS2 X2 hx hZ hown (host := "") (Or.inl (wd104 hw)) Via.refl rfl (pr6.ext OL2.2) (g := (mkF m 5 #[rv a1] [(.ref a1)])) rfl (hb hby d10_5)
  have fc5 := (pr1.keep K2)
  obtain ⟨T6, h6, X6, e6, W6, st6⟩ := putF X4 hx hZ hown (host := "") (Or.inl (wd105 hw)) Via.refl e4 u2_1 fc5 (Or.inl (wd106 hw)) (wd84 hw) (ty := (.array (.object s37))) (by decide) rfl rfl (g := (mkF m 8 #[rv a1] [(.ref w3), (.ref a1)])) rfl rfl (hb hby d10_8)
  have Fw6 := u2_1.same W6
  have KK6 : Keep h0 h6 [a1] := KK2.wr W6 (Or.inl (List.mem_of_getElem? (i := 0) rfl))
  have N6 := Fr.snoc X6 N2 pr3
  have fc7 := (u2_0.other W6 (Or.inr (slot_ne (Or.inl (wd103 hw)) (Or.inl (wd106 hw)) (by decide) (t := .int) (t' := (.array (.object s37))) (by decide) (by decide))))
  have fc8 := (u2_2.other W6 (Or.inr (slot_ne (Or.inl (wd118 hw)) (Or.inl (wd106 hw)) (by decide) (t := .int) (t' := (.array (.object s37))) (by decide) (by decide))))
  refine ⟨none, _, _, _, _, _, X6, e6, by decide, fun _ => rfl, fun fs hr => ?_, ?_⟩
  · refine XS.aloadN X0.here hx rfl (hb hby d10_0) rfl rfl ?_
    show SS p e below s₁ m 1 #[rv a1] [(.ref a1)] _
    refine st2 _ ?_
    refine XS.aloadN X2.here hx rfl (hb hby d10_4) rfl rfl ?_
    refine st4 _ ?_
    refine st6 _ ?_
    show SS p e below T6 m 11 #[rv a1] [] _
    exact X6.returnOut hx hret (hb hby d10_11) hr
  · exact ⟨rfl, N6, KK6, fc7, Fw6, fc8⟩
theorem cw9 {a0 Z} (hw : HW a0 Z) : CN a0 Z s28 9 mn10 0 (.code mn10 jdk_38_method_2_code 1 none) :=
  ⟨rfl, wx hw 86 rfl, wx hw 87 rfl, wx hw 88 rfl, wx hw 85 rfl, by decide, _, _, pd_0, rfl⟩
theorem d9_11 : DC cb9 11 (.astore 4) 2 := by decide +kernel
theorem d9_13 : DC cb9 13 (.iload_n 3) 1 := by decide +kernel
theorem d9_14 : DC cb9 14 (.ifCond .le 16) 3 := by decide +kernel
theorem d9_30 : DC cb9 30 (.iload_n 3) 1 := by decide +kernel
theorem d9_31 : DC cb9 31 (.iconst 1) 1 := by decide +kernel
theorem d9_32 : DC cb9 32 (.if_icmp .le 16) 3 := by decide +kernel
theorem d9_48 : DC cb9 48 (.iload_n 3) 1 := by decide +kernel
theorem d9_49 : DC cb9 49 (.iconst 2) 1 := by decide +kernel
theorem d9_50 : DC cb9 50 (.if_icmp .le 16) 3 := by decide +kernel
theorem d9_66 : DC cb9 66 (.aload 4) 2 := by decide +kernel
theorem d9_68 : DC cb9 68 (.areturn) 1 := by decide +kernel
theorem ef_9_10 (m : MethodId) (x0 : Int32) (x1 : Addr) (x2 : Addr) : entryFrame m #[(.int x0), (.ref x1), (.ref x2)] 5 = mkF m 0 #[.val (.int x0), .val (.ref x1), .val (.ref x2), .unset, .unset] [] := by first | (simp [entryFrame, mkF, argsToLocals, Value.category]; done) | rfl
theorem pn_7 : plainName "com/example/tarcal/tarcal/schedules/ChargeWithPricesPinLaw" = true := by first | (simp [plainName, overriddenIn]; done) | decide +kernel
theorem rm9_0 (l : Launch) (Z : State) (a0 : Array Value) (hw : HW a0 Z) (p1 : Int32) (a2 a3 w5 : Addr) (h0 : Heap) (n0 : Nat) (OL0 : Old Z n0 h0) (pr1 : (p1 &&& (3 : Int32)) = (0 : Int32)) (pr2 : Sta Z Z.heap s44 s2 s21 (.ref w5)) :
    MF l Z mn9 method_3_code 5 (some (.object s44)) ⟨4, 1, 3, 49⟩ #[(.int p1), (.ref a2), (.ref a3)] h0 (fun v h L => ∃ b4 : Addr, v = some (.ref b4) ∧ Fr n0 L ∧ Keep h0 h [] ∧ h0.size ≤ b4 ∧ Exa Z h b4 s44 ∧ Fld Z h b4 s43 s57 "I" (.int (0 : Int32)) ∧ Fld Z h b4 s44 s32 s21 (.ref w5) ∧ Fld Z h b4 s44 "size" "I" (.int (0 : Int32))) := by
  refine own_start (plainFor_of_name pn_7) (fun m => (ef_9_10 m p1 a2 a3)) ?_
  intro p e s m below meth c s₁ hZ hx hby hml hown hnm hret X0 e0
  have N0 := Fr.nil n0
  obtain ⟨T4, h4, X4, e4, E4, A4, D4, -, st4⟩ := newO X0 hx hZ hown (wd83 hw) (wd84 hw) (wd85 hw) e0 (g := (mkF m 4 #[iv p1, rv a2, rv a3, iv (0 : Int32), uu] [])) rfl (hb hby d9_4) (by decide) (by decide)
  obtain ⟨b4, g4⟩ : ∃ z, z = h0.size := ⟨_, rfl⟩
  rw [← g4] at A4 D4 st4
  have g_b4 : n0 ≤ b4 := (Nat.le_trans (Nat.le_trans (Nat.le_of_eq OL0.1.symm) OL0.2.1) (Nat.le_of_eq g4.symm))
  have sz_b4 : h0.size ≤ b4 := (Nat.le_trans (Keep.refl h0 []).1 (Nat.le_of_eq g4.symm))
  have KK4 : Keep h0 h4 [] := (Keep.refl h0 []).ext E4
  have OL4 := OL0.ext E4
  have F_modCount_b4 : Fld Z h4 b4 s43 s57 "I" (.int (0 : Int32)) := D4 (Or.inl (wd103 hw)) (ty := .int) (by decide)
  have F_elementData_b4 : Fld Z h4 b4 s44 s32 s21 .null := D4 (Or.inl (wd106 hw)) (ty := (.array (.object s37))) (by decide)
  have F_size_b4 : Fld Z h4 b4 s44 "size" "I" (.int (0 : Int32)) := D4 (Or.inl (wd118 hw)) (ty := .int) (by decide)
  obtain ⟨_, T6, L6, X6, hQ6, st6⟩ := own_cN X4 hx hZ hown hml (cw9 hw) (rm10_0 l Z a0 hw b4 w5 h4 n0 OL4 A4 F_modCount_b4 g_b4 F_elementData_b4 F_size_b4 pr2) e4 b4 8 #[iv p1, rv a2, rv a3, iv (0 : Int32), uu] [] [(.ref b4)] 1 rfl (hb hby d9_8) (by decide)
  obtain ⟨rfl, Nq6, K6, u6_0, u6_1, u6_2⟩ := hQ6
  have KK6 : Keep h0 T6.heap [] := KK4.trans K6 (allS (Or.inr sz_b4) all0)
  have N6 := Fr.app N0 Nq6
  have fc7 := (A4.keep K6)
  refine ⟨some (.ref b4), _, _, _, _, _, X6, rfl, by decide, nofun, fun fs hr => ?_, ?_⟩
  · refine XS.iloadN X0.here hx rfl (hb hby d9_0) rfl ?_
    show SS p e below s₁ m 1 #[iv p1, rv a2, rv a3, uu, uu] [(.int p1)] _
    refine XS.iconst X0.here hx rfl (hb hby d9_1) ?_
    refine XS.iand X0.here hx rfl (hb hby d9_2) rfl ?_
    show SS p e below s₁ m 3 #[iv p1, rv a2, rv a3, uu, uu] [(.int (p1 &&& (3 : Int32)))] _
    rw [pr1]
    refine XS.istoreN X0.here hx rfl (hb hby d9_3) rfl (l' := #[iv p1, rv a2, rv a3, iv (0 : Int32), uu]) rfl ?_
    refine st4 _ ?_
    refine XS.dup X4.here hx rfl (hb hby d9_7) rfl rfl ?_
    refine st6 _ ?_
    refine XS.astore X6.here hx rfl (hb hby d9_11) rfl rfl (l' := #[iv p1, rv a2, rv a3, iv (0 : Int32), rv b4]) rfl ?_
    refine XS.iloadN X6.here hx rfl (hb hby d9_13) rfl ?_
    refine XS.ifYes X6.here hx rfl (pc0 := 14) (pc' := 30) rfl (hb hby d9_14) rfl ((if0 _ _).trans (flt (by decide : ¬ ((0 : Int32) < (0 : Int32)))).2.2.2) (by decide) (by decide) ?_
    refine XS.iloadN X6.here hx rfl (hb hby d9_30) rfl ?_
    show SS p e below T6 m 31 #[iv p1, rv a2, rv a3, iv (0 : Int32), rv b4] [(.int (0 : Int32))] _
    refine XS.iconst X6.here hx rfl (hb hby d9_31) ?_
    refine XS.icmpYes X6.here hx rfl (pc0 := 32) (pc' := 48) rfl (hb hby d9_32) rfl (flt (by decide : ¬ ((1 : Int32) < (0 : Int32)))).2.2.2 (by decide) (by decide) ?_
    refine XS.iloadN X6.here hx rfl (hb hby d9_48) rfl ?_
    refine XS.iconst X6.here hx rfl (hb hby d9_49) ?_
    refine XS.icmpYes X6.here hx rfl (pc0 := 50) (pc' := 66) rfl (hb hby d9_50) rfl (flt (by decide : ¬ ((2 : Int32) < (0 : Int32)))).2.2.2 (by decide) (by decide) ?_
    refine XS.aload X6.here hx rfl (hb hby d9_66) rfl rfl ?_
    show SS p e below T6 m 68 #[iv p1, rv a2, rv a3, iv (0 : Int32), rv b4] [(.ref b4)] _
    exact own_retR X6 hx hret rfl rfl rfl (hb hby d9_68) hr
  · exact ⟨b4, rfl, N6, KK6, sz_b4, fc7, u6_0, u6_1, u6_2⟩
theorem pd_7 : parseMethodDescriptor "(ILcom/example/tarcal/tarcal/schedules/DatedPrice;Lcom/example/tarcal/tarcal/schedules/DatedPrice;)Ljava/util/ArrayList;" = some ⟨[.int, (.object "com/example/tarcal/tarcal/schedules/DatedPrice"), (.object "com/example/tarcal/tarcal/schedules/DatedPrice")], some (.object "java/util/ArrayList")⟩ := by decide +kernel
theorem cw10 {a0 Z} (hw : HW a0 Z) : CS a0 Z s28 80 mn9 3 (.code mn9 method_3_code 5 (some (.object s44))) :=
  ⟨wx hw 79 rfl, wx hw 80 rfl, wx hw 82 rfl, wx hw 81 rfl, by decide, _, _, pd_7, rfl⟩
theorem d19_0 : DC cb19 0 (.aload_n 0) 1 := by decide +kernel
theorem d19_1 : DC cb19 1 (.invokespecial 1) 3 := by decide +kernel
theorem cw11 {a0 Z} (hw : HW a0 Z) : CN a0 Z s27 1 mn2 0 (.code mn2 jdk_30_method_1_code 1 none) :=
  ⟨rfl, wx hw 147 rfl, wx hw 7 rfl, wx hw 10 rfl, wx hw 9 rfl, by decide, _, _, pd_0, rfl⟩
theorem d19_4 : DC cb19 4 (.aload 6) 2 := by decide +kernel
theorem d19_6 : DC cb19 6 (.invokestatic 7) 3 := by decide +kernel
theorem d20_0 : DC cb20 0 (.aload_n 0) 1 := by decide +kernel
theorem d20_1 : DC cb20 1 (.invokestatic 112) 3 := by decide +kernel
theorem d21_0 : DC cb21 0 (.aload_n 0) 1 := by decide +kernel
theorem d21_1 : DC cb21 1 (.instanceof 10) 3 := by decide +kernel
def NI (Z : State) (K : String) : Prop := ∃ t k, Z.vm.findClass K = some t ∧ Z.vm.classes[t]? = some k ∧ k.isInterface = false
theorem NI.inst {Z : State} {a0 : Array Value} {K : String} {n : Nat} (wk : (Jvm.Cond.instantiable K n).before a0 Z = true) : NI Z K := by
  obtain ⟨t', k', g1, g2, g5, g7, -⟩ := Cond.instantiable_spec wk
  refine ⟨t', k', g1, g2, ?_⟩
  cases q : k'.isInterface with
  | false => rfl
  | true => simp [q] at g7
theorem NI.sel {Z : State} {a0 : Array Value} {C : String} {x y : MethodName} (w : (Jvm.Cond.selects C x y).before a0 Z = true) : NI Z y.cls := by
  obtain ⟨c2, r2, m2, q1, q2, q3, q4, kP, hkP, hkPi⟩ := Cond.selects_spec w
  exact ⟨_, kP, findClass_of_methodNamed q3, hkP, hkPi⟩
theorem own_root {Z : State} {a0 : Array Value} {O K : String} (w : (Jvm.Cond.noSuperclass O).before a0 Z = true) (wk : NI Z K) (hn : O ≠ K) : NS Z O K := by
  obtain ⟨c, k, h1, h2, h3, -, -⟩ := Cond.noSuperclass_spec w
  obtain ⟨t, -, g1, -⟩ := wk
  have ne := ids_ne h1 g1 hn
  refine ⟨c, t, h1, g1, fun fuel => ?_⟩
  cases fuel with
  | zero => rfl
  | succ f => simp [Vm.isSubclassAux, ne, h2, h3]
theorem own_no {Z : State} {a0 : Array Value} {C S K : String} (w : (Jvm.Cond.superclass C S).before a0 Z = true) (wk : NI Z K) (n : NS Z C K) (hn : C ≠ K) : ∃ c t, Z.vm.findClass C = some c ∧ Z.vm.findClass K = some t ∧ Z.vm.assignable c t = false := by
  obtain ⟨c, t, h0, g0, n3⟩ := n
  obtain ⟨p, k, kp, h1, h2, h3, h4, h5, -, h7⟩ := Cond.superclass_spec h0 w
  obtain ⟨t', k', g1, g2, g8⟩ := wk
  cases g0.symm.trans g1
  have ne := ids_ne h0 g0 hn
  refine ⟨c, t, h0, g0, ?_⟩
  show Z.vm.assignableAux (255 + 1) c t = false
  cases hk : k'.kind <;> simp [Vm.assignableAux, ne, h2, g2, h5, hk, g8, Vm.isSubclass, n3]
theorem d21_4 : DC cb21 4 (.ifCond .ne 22) 3 := by decide +kernel
theorem d21_7 : DC cb21 7 (.aload_n 0) 1 := by decide +kernel
theorem d21_8 : DC cb21 8 (.instanceof 12) 3 := by decide +kernel
theorem d21_11 : DC cb21 11 (.ifCond .eq 20) 3 := by decide +kernel
theorem d21_31 : DC cb21 31 (.aload_n 0) 1 := by decide +kernel
theorem d21_32 : DC cb21 32 (.invokeinterface 20 1) 5 := by decide +kernel
theorem d22_0 : DC cb22 0 (.aload_n 0) 1 := by decide +kernel
theorem d22_1 : DC cb22 1 (.getfield 48) 3 := by decide +kernel
theorem d22_4 : DC cb22 4 (.ifCond .ne 7) 3 := by decide +kernel
theorem d22_7 : DC cb22 7 (.iconst 1) 1 := by decide +kernel
theorem d22_8 : DC cb22 8 (.goto 4) 3 := by decide +kernel
theorem d22_12 : DC cb22 12 (.ireturn) 1 := by decide +kernel
theorem ef_22_11 (m : MethodId) (x0 : Addr) : entryFrame m #[(.ref x0)] 1 = mkF m 0 #[.val (.ref x0)] [] := by first | (simp [entryFrame, mkF, argsToLocals, Value.category]; done) | rfl
theorem rm22_0 (l : Launch) (Z : State) (a0 : Array Value) (hw : HW a0 Z) (a1 : Addr) (h0 : Heap) (n0 : Nat) (OL0 : Old Z n0 h0) (pr1 : Fld Z h0 a1 s44 "size" "I" (.int (0 : Int32))) :
    MF l Z mn22 jdk_38_method_9_code 1 (some .boolean) ⟨0, 0, 0, 0⟩ #[(.ref a1)] h0 (QR n0 h0 (some (.int (1 : Int32)))) := by
  refine own_start (plainFor_of_name pn_6) (fun m => (ef_22_11 m a1)) ?_
  intro p e s m below meth c s₁ hZ hx hby hml hown hnm hret X0 e0
  have N0 := Fr.nil n0
  obtain ⟨T2, X2, e2, st2⟩ := gF X0 hx hZ hown (wd117 hw) Via.refl e0 pr1 1 #[rv a1] [] (hb hby d22_1)
  refine ⟨some (.int (1 : Int32)), _, _, _, _, _, X2, e2, by decide, nofun, fun fs hr => ?_, ?_⟩
  · refine XS.aloadN X0.here hx rfl (hb hby d22_0) rfl rfl ?_
    show SS p e below s₁ m 1 #[rv a1] [(.ref a1)] _
    refine st2 _ ?_
    refine XS.ifNo X2.here hx rfl (hb hby d22_4) rfl ((if0 _ _).trans (teq (rfl : (0 : Int32) = (0 : Int32))).2) ?_
    refine XS.iconst X2.here hx rfl (hb hby d22_7) ?_
    refine XS.goto X2.here hx rfl (pc0 := 8) (pc' := 12) rfl (hb hby d22_8) (by decide) (by decide) ?_
    show SS p e below T2 m 12 #[rv a1] [(.int (1 : Int32))] _
    exact retN X2 hx (t := .boolean) hret (by simp) (hb hby d22_12) hr
  · exact ⟨rfl, N0, rfl⟩
theorem pd_8 : parseMethodDescriptor "()Z" = some ⟨[], some .boolean⟩ := by decide +kernel
theorem cw12 {a0 Z} (hw : HW a0 Z) : CI a0 Z s47 20 (⟨s46, "isEmpty", "()Z"⟩ : MethodName) mn22 s44 0 (.code mn22 jdk_38_method_9_code 1 (some .boolean)) :=
  ⟨wx hw 162 rfl, wx hw 163 rfl, ⟨wx hw 164 rfl, by first | rfl | simp [Cond.onTables, Cond.keepsFace, Cond.keeps, Cond.steady]⟩, wx hw 165 rfl, wx hw 166 rfl, wx hw 167 rfl, wx hw 168 rfl, wx hw 169 rfl, wx hw 170 rfl, wx hw 85 rfl, by decide, _, _, pd_8, rfl⟩
theorem d21_37 : DC cb21 37 (.ifCond .eq 7) 3 := by decide +kernel
theorem d21_40 : DC cb21 40 (.invokestatic 26) 3 := by decide +kernel
theorem d33_0 : DC cb33 0 (.getstatic 90) 3 := by decide +kernel
theorem d33_3 : DC cb33 3 (.areturn) 1 := by decide +kernel
theorem ef_33_12 (m : MethodId)  : entryFrame m #[] 0 = mkF m 0 #[] [] := by first | (simp [entryFrame, mkF, argsToLocals, Value.category]; done) | rfl
theorem pn_8 : plainName "java/util/List" = true := by first | (simp [plainName, overriddenIn]; done) | decide +kernel
theorem rm33_0 (l : Launch) (Z : State) (a0 : Array Value) (hw : HW a0 Z) (w1 : Addr) (h0 : Heap) (n0 : Nat) (OL0 : Old Z n0 h0) (pr1 : Sta Z Z.heap s47 s4 s14 (.ref w1)) :
    MF l Z mn33 jdk_40_method_36_code 0 (some (.object s52)) ⟨0, 0, 0, 0⟩ #[] h0 (QR n0 h0 (some (.ref w1))) := by
  refine own_start (plainFor_of_name pn_8) (fun m => (ef_33_12 m )) ?_
  intro p e s m below meth c s₁ hZ hx hby hml hown hnm hret X0 e0
  have N0 := Fr.nil n0
  obtain ⟨T2, X2, e2, st2⟩ := getS2 X0 hx hZ hown (host := "") (Or.inl (wd256 hw)) Via.refl e0 (pr1.ext OL0.2) (g := (mkF m 0 #[] [])) rfl (hb hby d33_0)
  refine ⟨some (.ref w1), _, _, _, _, _, X2, e2, by decide, nofun, fun fs hr => ?_, ?_⟩
  · refine st2 _ ?_
    show SS p e below T2 m 3 #[] [(.ref w1)] _
    exact own_retR X2 hx hret rfl rfl rfl (hb hby d33_3) hr
  · exact ⟨rfl, N0, rfl⟩
theorem pd_9 : parseMethodDescriptor "()Ljava/util/List;" = some ⟨[], some (.object "java/util/List")⟩ := by decide +kernel
theorem cw13 {a0 Z} (hw : HW a0 Z) : CS a0 Z s47 26 mn33 0 (.code mn33 jdk_40_method_36_code 0 (some (.object s52))) :=
  ⟨wx hw 253 rfl, wx hw 254 rfl, wx hw 255 rfl, wx hw 150 rfl, by decide, _, _, pd_9, rfl⟩
theorem d21_43 : DC cb21 43 (.areturn) 1 := by decide +kernel
theorem ef_21_13 (m : MethodId) (x0 : Addr) : entryFrame m #[(.ref x0)] 2 = mkF m 0 #[.val (.ref x0), .unset] [] := by first | (simp [entryFrame, mkF, argsToLocals, Value.category]; done) | rfl
theorem pn_9 : plainName "java/util/ImmutableCollections" = true := by first | (simp [plainName, overriddenIn]; done) | decide +kernel
theorem rm21_0 (l : Launch) (Z : State) (a0 : Array Value) (hw : HW a0 Z) (a1 w5 : Addr) (h0 : Heap) (n0 : Nat) (OL0 : Old Z n0 h0) (pr1 : Exa Z h0 a1 s44) (pr2 : Fld Z h0 a1 s44 "size" "I" (.int (0 : Int32))) (pr3 : Sta Z Z.heap s47 s4 s14 (.ref w5)) :
    MF l Z mn21 jdk_56_method_3_code 2 (some (.object s52)) ⟨1, 0, 0, 12⟩ #[(.ref a1)] h0 (QR n0 h0 (some (.ref w5))) := by
  refine own_start (plainFor_of_name pn_9) (fun m => (ef_21_13 m a1)) ?_
  intro p e s m below meth c s₁ hZ hx hby hml hown hnm hret X0 e0
  have N0 := Fr.nil n0
  obtain ⟨T2, X2, e2, st2⟩ := instNo X0 hx hZ hown (wd156 hw) e0 pr1 (own_no (wd157 hw) (NI.inst (wd205 hw)) (NS.step (wd157 hw) (NS.step (wd158 hw) (NS.step (wd159 hw) (own_root (wd160 hw) (NI.inst (wd205 hw)) (by decide)) (by decide)) (by decide)) (by decide)) (by decide)) (g := (mkF m 1 #[rv a1, uu] [(.ref a1)])) rfl rfl (hb hby d21_1)
  obtain ⟨T3, X3, e3, st3⟩ := instNo X2 hx hZ hown (wd161 hw) e2 pr1 (own_no (wd157 hw) (NI.inst (wd326 hw)) (NS.step (wd157 hw) (NS.step (wd158 hw) (NS.step (wd159 hw) (own_root (wd160 hw) (NI.inst (wd326 hw)) (by decide)) (by decide)) (by decide)) (by decide)) (by decide)) (g := (mkF m 8 #[rv a1, uu] [(.ref a1)])) rfl rfl (hb hby d21_8)
  obtain ⟨_, T4, L4, X4, hQ4, st4⟩ := own_cI X3 hx hZ hown hml (cw12 hw) (rm22_0 l Z a0 hw a1 h0 n0 OL0 pr2) e3 pr1 32 #[rv a1, uu] [] [] 0 rfl (hb hby d21_32) (by decide)
  obtain ⟨rfl, Nq4, ec4⟩ := hQ4
  have N4 := Fr.app N0 Nq4
  obtain ⟨_, T6, L6, X6, hQ6, st6⟩ := own_cS X4 hx hZ hown hml (cw13 hw) (rm33_0 l Z a0 hw w5 h0 n0 OL0 pr3) ec4 40 #[rv a1, uu] [] [] 0 rfl (hb hby d21_40) (by decide)
  obtain ⟨rfl, Nq6, ec6⟩ := hQ6
  have N6 := Fr.app N4 Nq6
  refine ⟨some (.ref w5), _, _, _, _, _, X6, ec6, by decide, nofun, fun fs hr => ?_, ?_⟩
  · refine XS.aloadN X0.here hx rfl (hb hby d21_0) rfl rfl ?_
    show SS p e below s₁ m 1 #[rv a1, uu] [(.ref a1)] _
    refine st2 _ ?_
    refine XS.ifNo X2.here hx rfl (hb hby d21_4) rfl ((if0 _ _).trans (teq (rfl : (0 : Int32) = (0 : Int32))).2) ?_
    refine XS.aloadN X2.here hx rfl (hb hby d21_7) rfl rfl ?_
    refine st3 _ ?_
    refine XS.ifYes X3.here hx rfl (pc0 := 11) (pc' := 31) rfl (hb hby d21_11) rfl ((if0 _ _).trans (teq (rfl : (0 : Int32) = (0 : Int32))).1) (by decide) (by decide) ?_
    refine XS.aloadN X3.here hx rfl (hb hby d21_31) rfl rfl ?_
    refine st4 _ ?_
    refine XS.ifNo X4.here hx rfl (hb hby d21_37) rfl ((if0 _ _).trans (feq (by decide : ¬ ((1 : Int32) = (0 : Int32)))).1) ?_
    refine st6 _ ?_
    show SS p e below T6 m 43 #[rv a1, uu] [(.ref w5)] _
    exact own_retR X6 hx hret rfl rfl rfl (hb hby d21_43) hr
  · exact ⟨rfl, N6, rfl⟩
theorem pd_10 : parseMethodDescriptor "(Ljava/util/Collection;)Ljava/util/List;" = some ⟨[(.object "java/util/Collection")], some (.object "java/util/List")⟩ := by decide +kernel
theorem cw14 {a0 Z} (hw : HW a0 Z) : CS a0 Z s52 112 mn21 1 (.code mn21 jdk_56_method_3_code 2 (some (.object s52))) :=
  ⟨wx hw 152 rfl, wx hw 153 rfl, wx hw 155 rfl, wx hw 154 rfl, by decide, _, _, pd_10, rfl⟩
theorem d20_4 : DC cb20 4 (.areturn) 1 := by decide +kernel
theorem ef_20_14 (m : MethodId) (x0 : Addr) : entryFrame m #[(.ref x0)] 1 = mkF m 0 #[.val (.ref x0)] [] := by first | (simp [entryFrame, mkF, argsToLocals, Value.category]; done) | rfl
theorem rm20_0 (l : Launch) (Z : State) (a0 : Array Value) (hw : HW a0 Z) (a1 w2 : Addr) (h0 : Heap) (n0 : Nat) (OL0 : Old Z n0 h0) (pr1 : Exa Z h0 a1 s44) (pr2 : Fld Z h0 a1 s44 "size" "I" (.int (0 : Int32))) (pr3 : Sta Z Z.heap s47 s4 s14 (.ref w2)) :
    MF l Z mn20 jdk_40_method_48_code 1 (some (.object s52)) ⟨2, 0, 0, 25⟩ #[(.ref a1)] h0 (QR n0 h0 (some (.ref w2))) := by
  refine own_start (plainFor_of_name pn_8) (fun m => (ef_20_14 m a1)) ?_
  intro p e s m below meth c s₁ hZ hx hby hml hown hnm hret X0 e0
  have N0 := Fr.nil n0
  obtain ⟨_, T3, L3, X3, hQ3, st3⟩ := own_cS X0 hx hZ hown hml (cw14 hw) (rm21_0 l Z a0 hw a1 w2 h0 n0 OL0 pr1 pr2 pr3) e0 1 #[rv a1] [(.ref a1)] [] 0 rfl (hb hby d20_1) (by decide)
  obtain ⟨rfl, Nq3, ec3⟩ := hQ3
  have N3 := Fr.app N0 Nq3
  refine ⟨some (.ref w2), _, _, _, _, _, X3, ec3, by decide, nofun, fun fs hr => ?_, ?_⟩
  · refine XS.aloadN X0.here hx rfl (hb hby d20_0) rfl rfl ?_
    show SS p e below s₁ m 1 #[rv a1] [(.ref a1)] _
    refine st3 _ ?_
    show SS p e below T3 m 4 #[rv a1] [(.ref w2)] _
    exact own_retR X3 hx hret rfl rfl rfl (hb hby d20_4) hr
  · exact ⟨rfl, N3, rfl⟩
theorem cw15 {a0 Z} (hw : HW a0 Z) : CS a0 Z s27 7 mn20 1 (.code mn20 jdk_40_method_48_code 1 (some (.object s52))) :=
  ⟨wx hw 148 rfl, wx hw 149 rfl, wx hw 151 rfl, wx hw 150 rfl, by decide, _, _, pd_10, rfl⟩
theorem d19_9 : DC cb19 9 (.astore 6) 2 := by decide +kernel
theorem d19_11 : DC cb19 11 (.aload_n 0) 1 := by decide +kernel
theorem d19_12 : DC cb19 12 (.aload_n 1) 1 := by decide +kernel
theorem d19_13 : DC cb19 13 (.putfield 13) 3 := by decide +kernel
theorem d19_16 : DC cb19 16 (.aload_n 0) 1 := by decide +kernel
theorem d19_17 : DC cb19 17 (.aload_n 2) 1 := by decide +kernel
theorem d19_18 : DC cb19 18 (.putfield 19) 3 := by decide +kernel
theorem d19_21 : DC cb19 21 (.aload_n 0) 1 := by decide +kernel
theorem d19_22 : DC cb19 22 (.aload_n 3) 1 := by decide +kernel
theorem d19_23 : DC cb19 23 (.putfield 22) 3 := by decide +kernel
theorem d19_26 : DC cb19 26 (.aload_n 0) 1 := by decide +kernel
theorem d19_27 : DC cb19 27 (.aload 4) 2 := by decide +kernel
theorem d19_29 : DC cb19 29 (.putfield 26) 3 := by decide +kernel
theorem d19_32 : DC cb19 32 (.aload_n 0) 1 := by decide +kernel
theorem d19_33 : DC cb19 33 (.aload 5) 2 := by decide +kernel
theorem d19_35 : DC cb19 35 (.putfield 30) 3 := by decide +kernel
theorem d19_38 : DC cb19 38 (.aload_n 0) 1 := by decide +kernel
theorem d19_39 : DC cb19 39 (.aload 6) 2 := by decide +kernel
theorem d19_41 : DC cb19 41 (.putfield 33) 3 := by decide +kernel
theorem d19_44 : DC cb19 44 (.return_) 1 := by decide +kernel
theorem ef_19_15 (m : MethodId) (x0 : Addr) (x1 : Addr) (x2 : Addr) (x3 : Addr) (x6 : Addr) : entryFrame m #[(.ref x0), (.ref x1), (.ref x2), (.ref x3), .null, .null, (.ref x6)] 7 = mkF m 0 #[.val (.ref x0), .val (.ref x1), .val (.ref x2), .val (.ref x3), .val .null, .val .null, .val (.ref x6)] [] := by first | (simp [entryFrame, mkF, argsToLocals, Value.category]; done) | rfl
theorem pn_10 : plainName "com/example/tarcal/tarcal/schedules/Charge" = true := by first | (simp [plainName, overriddenIn]; done) | decide +kernel
theorem rm19_0 (l : Launch) (Z : State) (a0 : Array Value) (hw : HW a0 Z) (a1 a2 a3 w4 a5 w7 : Addr) (h0 : Heap) (n0 : Nat) (OL0 : Old Z n0 h0) (pr1 : Exa Z h0 a5 s44) (pr2 : Fld Z h0 a5 s44 "size" "I" (.int (0 : Int32))) (pr3 : Sta Z Z.heap s47 s4 s14 (.ref w7)) (pr4 : Exa Z h0 a1 s27) (pr5 : Fld Z h0 a1 s27 "id" s11 .null) (pr6 : n0 ≤ a1) (pr7 : Fld Z h0 a1 s27 "name" s11 .null) (pr8 : Fld Z h0 a1 s27 "basis" s9 .null) (pr9 : Fld Z h0 a1 s27 "onlyFor" s16 .null) (pr10 : Fld Z h0 a1 s27 s24 s16 .null) (pr11 : Fld Z h0 a1 s27 "prices" s15 .null) :
    MF l Z mn19 prog_22_method_1_code 7 none ⟨3, 0, 0, 37⟩ #[(.ref a1), (.ref a2), (.ref a3), (.ref w4), .null, .null, (.ref a5)] h0 (fun v h L => v = none ∧ Fr n0 L ∧ Keep h0 h [a1] ∧ Fld Z h a1 s27 "id" s11 (.ref a2) ∧ Fld Z h a1 s27 "name" s11 (.ref a3) ∧ Fld Z h a1 s27 "basis" s9 (.ref w4) ∧ Fld Z h a1 s27 "onlyFor" s16 .null ∧ Fld Z h a1 s27 s24 s16 .null ∧ Fld Z h a1 s27 "prices" s15 (.ref w7)) := by
  refine own_start (plainFor_of_name pn_10) (fun m => (ef_19_15 m a1 a2 a3 w4 a5)) ?_
  intro p e s m below meth c s₁ hZ hx hby hml hown hnm hret X0 e0
  have N0 := Fr.nil n0
  obtain ⟨_, T6, L6, X6, hQ6, st6⟩ := own_cN X0 hx hZ hown hml (cw11 hw) (rm2_0 l Z a0 hw a1 h0 n0 OL0 ) e0 a1 1 #[rv a1, rv a2, rv a3, rv w4, .val .null, .val .null, rv a5] [] [] 0 rfl (hb hby d19_1) (by decide)
  obtain ⟨rfl, Nq6, ec6⟩ := hQ6
  have N6 := Fr.app N0 Nq6
  obtain ⟨_, T8, L8, X8, hQ8, st8⟩ := own_cS X6 hx hZ hown hml (cw15 hw) (rm20_0 l Z a0 hw a5 w7 h0 n0 OL0 pr1 pr2 pr3) ec6 6 #[rv a1, rv a2, rv a3, rv w4, .val .null, .val .null, rv a5] [(.ref a5)] [] 0 rfl (hb hby d19_6) (by decide)
  obtain ⟨rfl, Nq8, ec8⟩ := hQ8
  have N8 := Fr.app N6 Nq8
  obtain ⟨T9, h9, X9, e9, W9, st9⟩ := putF X8 hx hZ hown (host := "") (Or.inl (wd234 hw)) Via.refl ec8 pr5 pr4 (Or.inr ⟨(wd235 hw), rfl, hnm⟩) (wd142 hw) (ty := (.object s39)) (by decide) rfl rfl (g := (mkF m 13 #[rv a1, rv a2, rv a3, rv w4, .val .null, .val .null, rv w7] [(.ref a2), (.ref a1)])) rfl rfl (hb hby d19_13)
  have Fw9 := pr5.same W9
  have KK9 : Keep h0 h9 [a1] := (Keep.refl h0 [a1]).wr W9 (Or.inl (List.mem_of_getElem? (i := 0) rfl))
  have N9 := Fr.snoc X9 N8 pr6
  have fc10 := (pr4.wr W9)
  have fc11 := (pr7.other W9 (Or.inr (slot_ne (Or.inr (wd237 hw)) (Or.inr (wd235 hw)) (by decide) (t := (.object s39)) (t' := (.object s39)) (by decide) (by decide))))
  obtain ⟨T12, h12, X12, e12, W12, st12⟩ := putF X9 hx hZ hown (host := "") (Or.inl (wd236 hw)) Via.refl e9 fc11 fc10 (Or.inr ⟨(wd237 hw), rfl, hnm⟩) (wd142 hw) (ty := (.object s39)) (by decide) rfl rfl (g := (mkF m 18 #[rv a1, rv a2, rv a3, rv w4, .val .null, .val .null, rv w7] [(.ref a3), (.ref a1)])) rfl rfl (hb hby d19_18)
  have Fw12 := fc11.same W12
  have KK12 : Keep h0 h12 [a1] := KK9.wr W12 (Or.inl (List.mem_of_getElem? (i := 0) rfl))
  have N12 := Fr.snoc X12 N9 pr6
  have fc13 := (fc10.wr W12)
  have fc14 := ((pr8.other W9 (Or.inr (slot_ne (Or.inr (wd239 hw)) (Or.inr (wd235 hw)) (by decide) (t := (.object s26)) (t' := (.object s39)) (by decide) (by decide)))).other W12 (Or.inr (slot_ne (Or.inr (wd239 hw)) (Or.inr (wd237 hw)) (by decide) (t := (.object s26)) (t' := (.object s39)) (by decide) (by decide))))
  obtain ⟨T15, h15, X15, e15, W15, st15⟩ := putF X12 hx hZ hown (host := "") (Or.inl (wd238 hw)) Via.refl e12 fc14 fc13 (Or.inr ⟨(wd239 hw), rfl, hnm⟩) (wd142 hw) (ty := (.object s26)) (by decide) rfl rfl (g := (mkF m 23 #[rv a1, rv a2, rv a3, rv w4, .val .null, .val .null, rv w7] [(.ref w4), (.ref a1)])) rfl rfl (hb hby d19_23)
  have Fw15 := fc14.same W15
  have KK15 : Keep h0 h15 [a1] := KK12.wr W15 (Or.inl (List.mem_of_getElem? (i := 0) rfl))
  have N15 := Fr.snoc X15 N12 pr6
  have fc16 := (fc13.wr W15)
  have fc17 := (((pr9.other W9 (Or.inr (slot_ne (Or.inr (wd241 hw)) (Or.inr (wd235 hw)) (by decide) (t := (.object s54)) (t' := (.object s39)) (by decide) (by decide)))).other W12 (Or.inr (slot_ne (Or.inr (wd241 hw)) (Or.inr (wd237 hw)) (by decide) (t := (.object s54)) (t' := (.object s39)) (by decide) (by decide)))).other W15 (Or.inr (slot_ne (Or.inr (wd241 hw)) (Or.inr (wd239 hw)) (by decide) (t := (.object s54)) (t' := (.object s26)) (by decide) (by decide))))
  obtain ⟨T18, h18, X18, e18, W18, st18⟩ := putF X15 hx hZ hown (host := "") (Or.inl (wd240 hw)) Via.refl e15 fc17 fc16 (Or.inr ⟨(wd241 hw), rfl, hnm⟩) (wd142 hw) (ty := (.object s54)) (by decide) rfl rfl (g := (mkF m 29 #[rv a1, rv a2, rv a3, rv w4, .val .null, .val .null, rv w7] [.null, (.ref a1)])) rfl rfl (hb hby d19_29)
  have Fw18 := fc17.same W18
  have KK18 : Keep h0 h18 [a1] := KK15.wr W18 (Or.inl (List.mem_of_getElem? (i := 0) rfl))
  have N18 := Fr.snoc X18 N15 pr6
  have fc19 := (fc16.wr W18)
  have fc20 := ((((pr10.other W9 (Or.inr (slot_ne (Or.inr (wd243 hw)) (Or.inr (wd235 hw)) (by decide) (t := (.object s54)) (t' := (.object s39)) (by decide) (by decide)))).other W12 (Or.inr (slot_ne (Or.inr (wd243 hw)) (Or.inr (wd237 hw)) (by decide) (t := (.object s54)) (t' := (.object s39)) (by decide) (by decide)))).other W15 (Or.inr (slot_ne (Or.inr (wd243 hw)) (Or.inr (wd239 hw)) (by decide) (t := (.object s54)) (t' := (.object s26)) (by decide) (by decide)))).other W18 (Or.inr (slot_ne (Or.inr (wd243 hw)) (Or.inr (wd241 hw)) (by decide) (t := (.object s54)) (t' := (.object s54)) (by decide) (by decide))))
  obtain ⟨T21, h21, X21, e21, W21, st21⟩ := putF X18 hx hZ hown (host := "") (Or.inl (wd242 hw)) Via.refl e18 fc20 fc19 (Or.inr ⟨(wd243 hw), rfl, hnm⟩) (wd142 hw) (ty := (.object s54)) (by decide) rfl rfl (g := (mkF m 35 #[rv a1, rv a2, rv a3, rv w4, .val .null, .val .null, rv w7] [.null, (.ref a1)])) rfl rfl (hb hby d19_35)
  have Fw21 := fc20.same W21
  have KK21 : Keep h0 h21 [a1] := KK18.wr W21 (Or.inl (List.mem_of_getElem? (i := 0) rfl))
  have N21 := Fr.snoc X21 N18 pr6
  have fc22 := (fc19.wr W21)
  have fc23 := (((((pr11.other W9 (Or.inr (slot_ne (Or.inr (wd245 hw)) (Or.inr (wd235 hw)) (by decide) (t := (.object s52)) (t' := (.object s39)) (by decide) (by decide)))).other W12 (Or.inr (slot_ne (Or.inr (wd245 hw)) (Or.inr (wd237 hw)) (by decide) (t := (.object s52)) (t' := (.object s39)) (by decide) (by decide)))).other W15 (Or.inr (slot_ne (Or.inr (wd245 hw)) (Or.inr (wd239 hw)) (by decide) (t := (.object s52)) (t' := (.object s26)) (by decide) (by decide)))).other W18 (Or.inr (slot_ne (Or.inr (wd245 hw)) (Or.inr (wd241 hw)) (by decide) (t := (.object s52)) (t' := (.object s54)) (by decide) (by decide)))).other W21 (Or.inr (slot_ne (Or.inr (wd245 hw)) (Or.inr (wd243 hw)) (by decide) (t := (.object s52)) (t' := (.object s54)) (by decide) (by decide))))
  obtain ⟨T24, h24, X24, e24, W24, st24⟩ := putF X21 hx hZ hown (host := "") (Or.inl (wd244 hw)) Via.refl e21 fc23 fc22 (Or.inr ⟨(wd245 hw), rfl, hnm⟩) (wd142 hw) (ty := (.object s52)) (by decide) rfl rfl (g := (mkF m 41 #[rv a1, rv a2, rv a3, rv w4, .val .null, .val .null, rv w7] [(.ref w7), (.ref a1)])) rfl rfl (hb hby d19_41)
  have Fw24 := fc23.same W24
  have KK24 : Keep h0 h24 [a1] := KK21.wr W24 (Or.inl (List.mem_of_getElem? (i := 0) rfl))
  have N24 := Fr.snoc X24 N21 pr6
  have fc25 := (((((Fw9.other W12 (Or.inr (slot_ne (Or.inr (wd235 hw)) (Or.inr (wd237 hw)) (by decide) (t := (.object s39)) (t' := (.object s39)) (by decide) (by decide)))).other W15 (Or.inr (slot_ne (Or.inr (wd235 hw)) (Or.inr (wd239 hw)) (by decide) (t := (.object s39)) (t' := (.object s26)) (by decide) (by decide)))).other W18 (Or.inr (slot_ne (Or.inr (wd235 hw)) (Or.inr (wd241 hw)) (by decide) (t := (.object s39)) (t' := (.object s54)) (by decide) (by decide)))).other W21 (Or.inr (slot_ne (Or.inr (wd235 hw)) (Or.inr (wd243 hw)) (by decide) (t := (.object s39)) (t' := (.object s54)) (by decide) (by decide)))).other W24 (Or.inr (slot_ne (Or.inr (wd235 hw)) (Or.inr (wd245 hw)) (by decide) (t := (.object s39)) (t' := (.object s52)) (by decide) (by decide))))
  have fc26 := ((((Fw12.other W15 (Or.inr (slot_ne (Or.inr (wd237 hw)) (Or.inr (wd239 hw)) (by decide) (t := (.object s39)) (t' := (.object s26)) (by decide) (by decide)))).other W18 (Or.inr (slot_ne (Or.inr (wd237 hw)) (Or.inr (wd241 hw)) (by decide) (t := (.object s39)) (t' := (.object s54)) (by decide) (by decide)))).other W21 (Or.inr (slot_ne (Or.inr (wd237 hw)) (Or.inr (wd243 hw)) (by decide) (t := (.object s39)) (t' := (.object s54)) (by decide) (by decide)))).other W24 (Or.inr (slot_ne (Or.inr (wd237 hw)) (Or.inr (wd245 hw)) (by decide) (t := (.object s39)) (t' := (.object s52)) (by decide) (by decide))))
  have fc27 := (((Fw15.other W18 (Or.inr (slot_ne (Or.inr (wd239 hw)) (Or.inr (wd241 hw)) (by decide) (t := (.object s26)) (t' := (.object s54)) (by decide) (by decide)))).other W21 (Or.inr (slot_ne (Or.inr (wd239 hw)) (Or.inr (wd243 hw)) (by decide) (t := (.object s26)) (t' := (.object s54)) (by decide) (by decide)))).other W24 (Or.inr (slot_ne (Or.inr (wd239 hw)) (Or.inr (wd245 hw)) (by decide) (t := (.object s26)) (t' := (.object s52)) (by decide) (by decide))))
  have fc28 := ((Fw18.other W21 (Or.inr (slot_ne (Or.inr (wd241 hw)) (Or.inr (wd243 hw)) (by decide) (t := (.object s54)) (t' := (.object s54)) (by decide) (by decide)))).other W24 (Or.inr (slot_ne (Or.inr (wd241 hw)) (Or.inr (wd245 hw)) (by decide) (t := (.object s54)) (t' := (.object s52)) (by decide) (by decide))))
  have fc29 := (Fw21.other W24 (Or.inr (slot_ne (Or.inr (wd243 hw)) (Or.inr (wd245 hw)) (by decide) (t := (.object s54)) (t' := (.object s52)) (by decide) (by decide))))
  refine ⟨none, _, _, _, _, _, X24, e24, by decide, fun _ => rfl, fun fs hr => ?_, ?_⟩
  · refine XS.aloadN X0.here hx rfl (hb hby d19_0) rfl rfl ?_
    show SS p e below s₁ m 1 #[rv a1, rv a2, rv a3, rv w4, .val .null, .val .null, rv a5] [(.ref a1)] _
    refine st6 _ ?_
    refine XS.aload X6.here hx rfl (hb hby d19_4) rfl rfl ?_
    refine st8 _ ?_
    refine XS.astore X8.here hx rfl (hb hby d19_9) rfl rfl (l' := #[rv a1, rv a2, rv a3, rv w4, .val .null, .val .null, rv w7]) rfl ?_
    refine XS.aloadN X8.here hx rfl (hb hby d19_11) rfl rfl ?_
    refine XS.aloadN X8.here hx rfl (hb hby d19_12) rfl rfl ?_
    refine st9 _ ?_
    refine XS.aloadN X9.here hx rfl (hb hby d19_16) rfl rfl ?_
    refine XS.aloadN X9.here hx rfl (hb hby d19_17) rfl rfl ?_
    refine st12 _ ?_
    show SS p e below T12 m 21 #[rv a1, rv a2, rv a3, rv w4, .val .null, .val .null, rv w7] [] _
    refine XS.aloadN X12.here hx rfl (hb hby d19_21) rfl rfl ?_
    refine XS.aloadN X12.here hx rfl (hb hby d19_22) rfl rfl ?_
    refine st15 _ ?_
    refine XS.aloadN X15.here hx rfl (hb hby d19_26) rfl rfl ?_
    refine XS.aload X15.here hx rfl (hb hby d19_27) rfl rfl ?_
    refine st18 _ ?_
    refine XS.aloadN X18.here hx rfl (hb hby d19_32) rfl rfl ?_
    refine XS.aload X18.here hx rfl (hb hby d19_33) rfl rfl ?_
    refine st21 _ ?_
    refine XS.aloadN X21.here hx rfl (hb hby d19_38) rfl rfl ?_
    show SS p e below T21 m 39 #[rv a1, rv a2, rv a3, rv w4, .val .null, .val .null, rv w7] [(.ref a1)] _
    refine XS.aload X21.here hx rfl (hb hby d19_39) rfl rfl ?_
    refine st24 _ ?_
    show SS p e below T24 m 44 #[rv a1, rv a2, rv a3, rv w4, .val .null, .val .null, rv w7] [] _
    exact X24.returnOut hx hret (hb hby d19_44) hr
  · exact ⟨rfl, N24, KK24, fc25, fc26, fc27, fc28, fc29, Fw24⟩
theorem pd_11 : parseMethodDescriptor "(Ljava/lang/String;Ljava/lang/String;Lcom/example/tarcal/tarcal/schedules/Basis;Ljava/util/Optional;Ljava/util/Optional;Ljava/util/List;)V" = some ⟨[(.object "java/lang/String"), (.object "java/lang/String"), (.object "com/example/tarcal/tarcal/schedules/Basis"), (.object "java/util/Optional"), (.object "java/util/Optional"), (.object "java/util/List")], none⟩ := by decide +kernel
theorem cw16 {a0 Z} (hw : HW a0 Z) : CN a0 Z s28 86 mn19 6 (.code mn19 prog_22_method_1_code 7 none) :=
  ⟨rfl, wx hw 144 rfl, wx hw 145 rfl, wx hw 146 rfl, wx hw 143 rfl, by decide, _, _, pd_11, rfl⟩
theorem d32_0 : DC cb32 0 (.new 14) 3 := by decide +kernel
theorem d32_3 : DC cb32 3 (.dup) 1 := by decide +kernel
theorem d32_4 : DC cb32 4 (.aload_n 0) 1 := by decide +kernel
theorem d32_5 : DC cb32 5 (.getfield 13) 3 := by decide +kernel
theorem d32_8 : DC cb32 8 (.aload_n 0) 1 := by decide +kernel
theorem d32_9 : DC cb32 9 (.getfield 19) 3 := by decide +kernel
theorem d32_12 : DC cb32 12 (.aload_n 0) 1 := by decide +kernel
theorem d32_13 : DC cb32 13 (.getfield 22) 3 := by decide +kernel
theorem d32_16 : DC cb32 16 (.aload_n 0) 1 := by decide +kernel
theorem d32_17 : DC cb32 17 (.getfield 26) 3 := by decide +kernel
theorem d32_20 : DC cb32 20 (.aload_n 0) 1 := by decide +kernel
theorem d32_21 : DC cb32 21 (.getfield 30) 3 := by decide +kernel
theorem d32_24 : DC cb32 24 (.aload_n 1) 1 := by decide +kernel
theorem d32_25 : DC cb32 25 (.invokespecial 37) 3 := by decide +kernel
theorem cw17 {a0 Z} (hw : HW a0 Z) : CN a0 Z s27 37 mn19 6 (.code mn19 prog_22_method_1_code 7 none) :=
  ⟨rfl, wx hw 252 rfl, wx hw 145 rfl, wx hw 146 rfl, wx hw 143 rfl, by decide, _, _, pd_11, rfl⟩
theorem d32_28 : DC cb32 28 (.areturn) 1 := by decide +kernel
theorem ef_32_16 (m : MethodId) (x0 : Addr) (x1 : Addr) : entryFrame m #[(.ref x0), (.ref x1)] 2 = mkF m 0 #[.val (.ref x0), .val (.ref x1)] [] := by first | (simp [entryFrame, mkF, argsToLocals, Value.category]; done) | rfl
theorem rm32_0 (l : Launch) (Z : State) (a0 : Array Value) (hw : HW a0 Z) (a1 a2 a4 a7 w10 w17 : Addr) (h0 : Heap) (n0 : Nat) (OL0 : Old Z n0 h0) (pr1 : Fld Z h0 a1 s27 "id" s11 (.ref a4)) (pr2 : Fld Z h0 a1 s27 "name" s11 (.ref a7)) (pr3 : Fld Z h0 a1 s27 "basis" s9 (.ref w10)) (pr4 : Fld Z h0 a1 s27 "onlyFor" s16 .null) (pr5 : Fld Z h0 a1 s27 s24 s16 .null) (pr6 : Exa Z h0 a2 s44) (pr7 : Fld Z h0 a2 s44 "size" "I" (.int (0 : Int32))) (pr8 : Sta Z Z.heap s47 s4 s14 (.ref w17)) :
    MF l Z mn32 prog_22_method_2_code 2 (some (.object s27)) ⟨4, 1, 6, 56⟩ #[(.ref a1), (.ref a2)] h0 (fun v h L => ∃ b3 : Addr, v = some (.ref b3) ∧ Fr n0 L ∧ Keep h0 h [] ∧ h0.size ≤ b3 ∧ Exa Z h b3 s27 ∧ Fld Z h b3 s27 "id" s11 (.ref a4) ∧ Fld Z h b3 s27 "name" s11 (.ref a7) ∧ Fld Z h b3 s27 "basis" s9 (.ref w10) ∧ Fld Z h b3 s27 "onlyFor" s16 .null ∧ Fld Z h b3 s27 s24 s16 .null ∧ Fld Z h b3 s27 "prices" s15 (.ref w17)) := by
  refine own_start (plainFor_of_name pn_10) (fun m => (ef_32_16 m a1 a2)) ?_
  intro p e s m below meth c s₁ hZ hx hby hml hown hnm hret X0 e0
  have N0 := Fr.nil n0
  obtain ⟨T3, h3, X3, e3, E3, A3, D3, -, st3⟩ := newO X0 hx hZ hown (wd251 hw) (wd142 hw) (wd143 hw) e0 (g := (mkF m 0 #[rv a1, rv a2] [])) rfl (hb hby d32_0) (by decide) (by decide)
  obtain ⟨b3, g3⟩ : ∃ z, z = h0.size := ⟨_, rfl⟩
  rw [← g3] at A3 D3 st3
  have g_b3 : n0 ≤ b3 := (Nat.le_trans (Nat.le_trans (Nat.le_of_eq OL0.1.symm) OL0.2.1) (Nat.le_of_eq g3.symm))
  have sz_b3 : h0.size ≤ b3 := (Nat.le_trans (Keep.refl h0 []).1 (Nat.le_of_eq g3.symm))
  have KK3 : Keep h0 h3 [] := (Keep.refl h0 []).ext E3
  have OL3 := OL0.ext E3
  have F_id_b3 : Fld Z h3 b3 s27 "id" s11 .null := D3 (Or.inr (wd235 hw)) (ty := (.object s39)) (by decide)
  have F_name_b3 : Fld Z h3 b3 s27 "name" s11 .null := D3 (Or.inr (wd237 hw)) (ty := (.object s39)) (by decide)
  have F_basis_b3 : Fld Z h3 b3 s27 "basis" s9 .null := D3 (Or.inr (wd239 hw)) (ty := (.object s26)) (by decide)
  have F_onlyFor_b3 : Fld Z h3 b3 s27 "onlyFor" s16 .null := D3 (Or.inr (wd241 hw)) (ty := (.object s54)) (by decide)
  have F_chargeFor_b3 : Fld Z h3 b3 s27 s24 s16 .null := D3 (Or.inr (wd243 hw)) (ty := (.object s54)) (by decide)
  have F_prices_b3 : Fld Z h3 b3 s27 "prices" s15 .null := D3 (Or.inr (wd245 hw)) (ty := (.object s52)) (by decide)
  have fc5 := (pr1.ext E3)
  obtain ⟨T6, X6, e6, st6⟩ := gF X3 hx hZ hown (wd234 hw) Via.refl e3 fc5 5 #[rv a1, rv a2] [(.ref b3), (.ref b3)] (hb hby d32_5)
  have fc8 := (pr2.ext E3)
  obtain ⟨T9, X9, e9, st9⟩ := gF X6 hx hZ hown (wd236 hw) Via.refl e6 fc8 9 #[rv a1, rv a2] [(.ref a4), (.ref b3), (.ref b3)] (hb hby d32_9)
  have fc11 := (pr3.ext E3)
  obtain ⟨T12, X12, e12, st12⟩ := gF X9 hx hZ hown (wd238 hw) Via.refl e9 fc11 13 #[rv a1, rv a2] [(.ref a7), (.ref a4), (.ref b3), (.ref b3)] (hb hby d32_13)
  have fc13 := (pr4.ext E3)
  obtain ⟨T14, X14, e14, st14⟩ := gF X12 hx hZ hown (wd240 hw) Via.refl e12 fc13 17 #[rv a1, rv a2] [(.ref w10), (.ref a7), (.ref a4), (.ref b3), (.ref b3)] (hb hby d32_17)
  have fc15 := (pr5.ext E3)
  obtain ⟨T16, X16, e16, st16⟩ := gF X14 hx hZ hown (wd242 hw) Via.refl e14 fc15 21 #[rv a1, rv a2] [.null, (.ref w10), (.ref a7), (.ref a4), (.ref b3), (.ref b3)] (hb hby d32_21)
  have fc19 := (pr6.ext E3)
  have fc20 := (pr7.ext E3)
  obtain ⟨_, T18, L18, X18, hQ18, st18⟩ := own_cN X16 hx hZ hown hml (cw17 hw) (rm19_0 l Z a0 hw b3 a4 a7 w10 a2 w17 h3 n0 OL3 fc19 fc20 pr8 A3 F_id_b3 g_b3 F_name_b3 F_basis_b3 F_onlyFor_b3 F_chargeFor_b3 F_prices_b3) e16 b3 25 #[rv a1, rv a2] [(.ref a4), (.ref a7), (.ref w10), .null, .null, (.ref a2)] [(.ref b3)] 1 rfl (hb hby d32_25) (by decide)
  obtain ⟨rfl, Nq18, K18, u18_0, u18_1, u18_2, u18_3, u18_4, u18_5⟩ := hQ18
  have KK18 : Keep h0 T18.heap [] := KK3.trans K18 (allS (Or.inr sz_b3) all0)
  have N18 := Fr.app N0 Nq18
  have fc21 := (A3.keep K18)
  refine ⟨some (.ref b3), _, _, _, _, _, X18, rfl, by decide, nofun, fun fs hr => ?_, ?_⟩
  · refine st3 _ ?_
    show SS p e below T3 m 3 #[rv a1, rv a2] [(.ref b3)] _
    refine XS.dup X3.here hx rfl (hb hby d32_3) rfl rfl ?_
    refine XS.aloadN X3.here hx rfl (hb hby d32_4) rfl rfl ?_
    refine st6 _ ?_
    refine XS.aloadN X6.here hx rfl (hb hby d32_8) rfl rfl ?_
    refine st9 _ ?_
    refine XS.aloadN X9.here hx rfl (hb hby d32_12) rfl rfl ?_
    refine st12 _ ?_
    refine XS.aloadN X12.here hx rfl (hb hby d32_16) rfl rfl ?_
    refine st14 _ ?_
    refine XS.aloadN X14.here hx rfl (hb hby d32_20) rfl rfl ?_
    show SS p e below T14 m 21 #[rv a1, rv a2] [(.ref a1), .null, (.ref w10), (.ref a7), (.ref a4), (.ref b3), (.ref b3)] _
    refine st16 _ ?_
    refine XS.aloadN X16.here hx rfl (hb hby d32_24) rfl rfl ?_
    refine st18 _ ?_
    show SS p e below T18 m 28 #[rv a1, rv a2] [(.ref b3)] _
    exact own_retR X18 hx hret rfl rfl rfl (hb hby d32_28) hr
  · exact ⟨b3, rfl, N18, KK18, sz_b3, fc21, u18_0, u18_1, u18_2, u18_3, u18_4, u18_5⟩
theorem pd_12 : parseMethodDescriptor "(Ljava/util/List;)Lcom/example/tarcal/tarcal/schedules/Charge;" = some ⟨[(.object "java/util/List")], some (.object "com/example/tarcal/tarcal/schedules/Charge")⟩ := by decide +kernel
theorem cw18 {a0 Z} (hw : HW a0 Z) : CV a0 Z s28 89 mn32 mn32 s27 1 (.code mn32 prog_22_method_2_code 2 (some (.object s27))) :=
  ⟨wx hw 246 rfl, wx hw 247 rfl, (fun _ hZ => notFace_of_selects (args := #[]) (mvT hZ (wd249 hw))), wx hw 249 rfl, wx hw 248 rfl, wx hw 250 rfl, wx hw 143 rfl, by decide, _, _, pd_12, rfl⟩
theorem d14_0 : DC cb14 0 (.aload_n 0) 1 := by decide +kernel
theorem d14_1 : DC cb14 1 (.dup) 1 := by decide +kernel
theorem d14_2 : DC cb14 2 (.getfield 63) 3 := by decide +kernel
theorem d14_5 : DC cb14 5 (.iconst 1) 1 := by decide +kernel
theorem d14_6 : DC cb14 6 (.iadd) 1 := by decide +kernel
theorem d14_7 : DC cb14 7 (.putfield 63) 3 := by decide +kernel
theorem d14_10 : DC cb14 10 (.aload_n 0) 1 := by decide +kernel
theorem d14_11 : DC cb14 11 (.aload_n 1) 1 := by decide +kernel
theorem d14_12 : DC cb14 12 (.aload_n 0) 1 := by decide +kernel
theorem d14_13 : DC cb14 13 (.getfield 9) 3 := by decide +kernel
theorem d14_16 : DC cb14 16 (.aload_n 0) 1 := by decide +kernel
theorem d14_17 : DC cb14 17 (.getfield 48) 3 := by decide +kernel
theorem d14_20 : DC cb14 20 (.invokevirtual 131) 3 := by decide +kernel
theorem d15_0 : DC cb15 0 (.iload_n 3) 1 := by decide +kernel
theorem d15_1 : DC cb15 1 (.aload_n 2) 1 := by decide +kernel
theorem d15_2 : DC cb15 2 (.arraylength) 1 := by decide +kernel
theorem d15_3 : DC cb15 3 (.if_icmp .ne 8) 3 := by decide +kernel
theorem d15_6 : DC cb15 6 (.aload_n 0) 1 := by decide +kernel
theorem d15_7 : DC cb15 7 (.invokevirtual 129) 3 := by decide +kernel
theorem d16_0 : DC cb16 0 (.aload_n 0) 1 := by decide +kernel
theorem d16_1 : DC cb16 1 (.aload_n 0) 1 := by decide +kernel
theorem d16_2 : DC cb16 2 (.getfield 48) 3 := by decide +kernel
theorem d16_5 : DC cb16 5 (.iconst 1) 1 := by decide +kernel
theorem d16_6 : DC cb16 6 (.iadd) 1 := by decide +kernel
theorem d16_7 : DC cb16 7 (.invokevirtual 69) 3 := by decide +kernel
theorem d17_0 : DC cb17 0 (.aload_n 0) 1 := by decide +kernel
theorem d17_1 : DC cb17 1 (.getfield 9) 3 := by decide +kernel
theorem d17_4 : DC cb17 4 (.arraylength) 1 := by decide +kernel
theorem d17_5 : DC cb17 5 (.istore_n 2) 1 := by decide +kernel
theorem d17_6 : DC cb17 6 (.iload_n 2) 1 := by decide +kernel
theorem d17_7 : DC cb17 7 (.ifCond .gt 13) 3 := by decide +kernel
theorem d17_10 : DC cb17 10 (.aload_n 0) 1 := by decide +kernel
theorem d17_11 : DC cb17 11 (.getfield 9) 3 := by decide +kernel
theorem d17_14 : DC cb17 14 (.getstatic 39) 3 := by decide +kernel
theorem d17_17 : DC cb17 17 (.if_acmp .eq 28) 3 := by decide +kernel
theorem d17_45 : DC cb17 45 (.aload_n 0) 1 := by decide +kernel
theorem d17_46 : DC cb17 46 (.bipush 10) 2 := by decide +kernel
theorem d17_48 : DC cb17 48 (.iload_n 1) 1 := by decide +kernel
theorem d17_49 : DC cb17 49 (.invokestatic 79) 3 := by decide +kernel
theorem d18_0 : DC cb18 0 (.iload_n 0) 1 := by decide +kernel
theorem d18_1 : DC cb18 1 (.iload_n 1) 1 := by decide +kernel
theorem d18_2 : DC cb18 2 (.if_icmp .lt 7) 3 := by decide +kernel
theorem d18_5 : DC cb18 5 (.iload_n 0) 1 := by decide +kernel
theorem d18_6 : DC cb18 6 (.goto 4) 3 := by decide +kernel
theorem d18_10 : DC cb18 10 (.ireturn) 1 := by decide +kernel
theorem ef_18_17 (m : MethodId)  : entryFrame m #[(.int (10 : Int32)), (.int (1 : Int32))] 2 = mkF m 0 #[.val (.int (10 : Int32)), .val (.int (1 : Int32))] [] := by first | (simp [entryFrame, mkF, argsToLocals, Value.category]; done) | rfl
theorem rm18_0 (l : Launch) (Z : State) (a0 : Array Value) (hw : HW a0 Z)  (h0 : Heap) (n0 : Nat) (OL0 : Old Z n0 h0)  :
    MF l Z mn18 jdk_29_method_65_code 2 (some .int) ⟨0, 0, 0, 0⟩ #[(.int (10 : Int32)), (.int (1 : Int32))] h0 (QR n0 h0 (some (.int (10 : Int32)))) := by
  refine own_start (Jvm.Free.JP.mathPlain rfl (by decide +kernel)) (fun m => (ef_18_17 m )) ?_
  intro p e s m below meth c s₁ hZ hx hby hml hown hnm hret X0 e0
  have N0 := Fr.nil n0
  refine ⟨some (.int (10 : Int32)), _, _, _, _, _, X0, e0, by decide, nofun, fun fs hr => ?_, ?_⟩
  · refine XS.iloadN X0.here hx rfl (hb hby d18_0) rfl ?_
    show SS p e below s₁ m 1 #[iv (10 : Int32), iv (1 : Int32)] [(.int (10 : Int32))] _
    refine XS.iloadN X0.here hx rfl (hb hby d18_1) rfl ?_
    refine XS.icmpNo X0.here hx rfl (hb hby d18_2) rfl (flt (by decide : ¬ ((10 : Int32) < (1 : Int32)))).1 ?_
    refine XS.iloadN X0.here hx rfl (hb hby d18_5) rfl ?_
    refine XS.goto X0.here hx rfl (pc0 := 6) (pc' := 10) rfl (hb hby d18_6) (by decide) (by decide) ?_
    show SS p e below s₁ m 10 #[iv (10 : Int32), iv (1 : Int32)] [(.int (10 : Int32))] _
    exact retI X0 hx hret (hb hby d18_10) hr
  · exact ⟨rfl, N0, rfl⟩
theorem pd_13 : parseMethodDescriptor "(II)I" = some ⟨[.int, .int], some .int⟩ := by decide +kernel
theorem cw19 {a0 Z} (hw : HW a0 Z) : CS a0 Z s44 79 mn18 2 (.code mn18 jdk_29_method_65_code 2 (some .int)) :=
  ⟨wx hw 134 rfl, wx hw 135 rfl, wx hw 137 rfl, wx hw 136 rfl, by decide, _, _, pd_13, rfl⟩
theorem d17_52 : DC cb17 52 (.anewarray 7) 3 := by decide +kernel
theorem d17_55 : DC cb17 55 (.dup_x1) 1 := by decide +kernel
theorem d17_56 : DC cb17 56 (.putfield 9) 3 := by decide +kernel
theorem d17_59 : DC cb17 59 (.areturn) 1 := by decide +kernel
theorem ef_17_18 (m : MethodId) (x0 : Addr) : entryFrame m #[(.ref x0), (.int (1 : Int32))] 4 = mkF m 0 #[.val (.ref x0), .val (.int (1 : Int32)), .unset, .unset] [] := by first | (simp [entryFrame, mkF, argsToLocals, Value.category]; done) | rfl
theorem rm17_0 (l : Launch) (Z : State) (a0 : Array Value) (hw : HW a0 Z) (a1 w2 : Addr) (k4 : ClassId) (h0 : Heap) (n0 : Nat) (OL0 : Old Z n0 h0) (pr1 : Fld Z h0 a1 s44 s32 s21 (.ref w2)) (pr2 : Arv Z Z.heap w2 k4 (.object s37) (0 : Int32) [] .null) (pr3 : Sta Z Z.heap s44 s2 s21 (.ref w2)) (pr4 : Exa Z h0 a1 s44) (pr5 : n0 ≤ a1) (pr6 : Fld Z h0 a1 s44 "size" "I" (.int (0 : Int32))) (pr7 : Fld Z h0 a1 s43 s57 "I" (.int (1 : Int32))) :
    MF l Z mn17 jdk_38_method_6_code 4 (some (.array (.object s37))) ⟨1, 1, 10, 14⟩ #[(.ref a1), (.int (1 : Int32))] h0 (fun v h L => ∃ b9 : Addr, ∃ k9 : ClassId, v = some (.ref b9) ∧ Fr n0 L ∧ Keep h0 h [a1] ∧ h0.size ≤ b9 ∧ Fld Z h a1 s44 s32 s21 (.ref b9) ∧ Fld Z h a1 s44 "size" "I" (.int (0 : Int32)) ∧ Fld Z h a1 s43 s57 "I" (.int (1 : Int32)) ∧ Arv Z h b9 k9 (.object s37) (10 : Int32) [.null, .null, .null, .null, .null, .null, .null, .null, .null, .null] .null ∧ Ovr Z k9 s37 ∧ Exa Z h b9 s21) := by
  refine own_start (plainFor_of_name pn_6) (fun m => (ef_17_18 m a1)) ?_
  intro p e s m below meth c s₁ hZ hx hby hml hown hnm hret X0 e0
  have N0 := Fr.nil n0
  obtain ⟨T3, X3, e3, st3⟩ := gF X0 hx hZ hown (wd105 hw) Via.refl e0 pr1 1 #[rv a1, iv (1 : Int32), uu, uu] [] (hb hby d17_1)
  obtain ⟨cl5, Ar5, -, Sz5, Nn5, -, -⟩ := id (pr2.ext OL0.2)
  obtain ⟨T6, X6, e6, st6⟩ := gF X3 hx hZ hown (wd105 hw) Via.refl e3 pr1 11 #[rv a1, iv (1 : Int32), iv (0 : Int32), uu] [] (hb hby d17_11)
  obtain ⟨T7, X7, e7, st7⟩ := getS2 X6 hx hZ hown (host := "") (Or.inl (wd104 hw)) Via.refl e6 (pr3.ext OL0.2) (g := (mkF m 14 #[rv a1, iv (1 : Int32), iv (0 : Int32), uu] [(.ref w2)])) rfl (hb hby d17_14)
  obtain ⟨_, T8, L8, X8, hQ8, st8⟩ := own_cS X7 hx hZ hown hml (cw19 hw) (rm18_0 l Z a0 hw  h0 n0 OL0 ) e7 49 #[rv a1, iv (1 : Int32), iv (0 : Int32), uu] [(.int (10 : Int32)), (.int (1 : Int32))] [(.ref a1)] 1 rfl (hb hby d17_49) (by decide)
  obtain ⟨rfl, Nq8, ec8⟩ := hQ8
  have N8 := Fr.app N0 Nq8
  obtain ⟨T9, h9, k9, X9, e9, E9, A9, AE9, O9, st9⟩ := newRE (ad := s21) X8 hx hZ hown (wd138 hw) (wd139 hw) ec8 (g := (mkF m 52 #[rv a1, iv (1 : Int32), iv (0 : Int32), uu] [(.int (10 : Int32)), (.ref a1)])) rfl (hb hby d17_52) rfl (by decide) (cap := 10) (by decide) (by decide) (by decide) (by decide) (by decide)
  obtain ⟨b9, g9⟩ : ∃ z, z = h0.size := ⟨_, rfl⟩
  rw [← g9] at A9 AE9 st9
  have V9 : Arv Z h9 b9 k9 (.object s37) (10 : Int32) [.null, .null, .null, .null, .null, .null, .null, .null, .null, .null] .null := (Arv.new A9 (by decide)).pad (pad_rep [] .null 10)
  have sz_b9 : h0.size ≤ b9 := (Nat.le_trans (Keep.refl h0 [a1]).1 (Nat.le_of_eq g9.symm))
  have KK9 : Keep h0 h9 [a1] := (Keep.refl h0 [a1]).ext E9
  have fc10 := (pr4.ext E9)
  have fc11 := (pr1.ext E9)
  obtain ⟨T12, h12, X12, e12, W12, st12⟩ := putF X9 hx hZ hown (host := "") (Or.inl (wd105 hw)) Via.refl e9 fc11 fc10 (Or.inl (wd106 hw)) (wd84 hw) (ty := (.array (.object s37))) (by decide) rfl rfl (g := (mkF m 56 #[rv a1, iv (1 : Int32), iv (0 : Int32), uu] [(.ref b9), (.ref a1), (.ref b9)])) rfl rfl (hb hby d17_56)
  have Fw12 := fc11.same W12
  have KK12 : Keep h0 h12 [a1] := KK9.wr W12 (Or.inl (List.mem_of_getElem? (i := 0) rfl))
  have N12 := Fr.snoc X12 N8 pr5
  have fc13 := ((pr6.ext E9).other W12 (Or.inr (slot_ne (Or.inl (wd118 hw)) (Or.inl (wd106 hw)) (by decide) (t := .int) (t' := (.array (.object s37))) (by decide) (by decide))))
  have fc14 := ((pr7.ext E9).other W12 (Or.inr (slot_ne (Or.inl (wd103 hw)) (Or.inl (wd106 hw)) (by decide) (t := .int) (t' := (.array (.object s37))) (by decide) (by decide))))
  have nz15 := nl pr7.lt sz_b9
  have fc16 := (V9.other W12 (Ne.symm nz15))
  have fc17 := (AE9.wr W12)
  refine ⟨some (.ref b9), _, _, _, _, _, X12, e12, by decide, nofun, fun fs hr => ?_, ?_⟩
  · refine XS.aloadN X0.here hx rfl (hb hby d17_0) rfl rfl ?_
    show SS p e below s₁ m 1 #[rv a1, iv (1 : Int32), uu, uu] [(.ref a1)] _
    refine st3 _ ?_
    refine X3.arraylength hx (by rw [e3]; exact Ar5.1) (State.isArrayOf_alike hZ.alike Ar5.2.1) (g := (mkF m 4 #[rv a1, iv (1 : Int32), uu, uu] [(.ref w2)])) rfl rfl (hb hby d17_4) _ ?_
    rw [len_of Sz5 Nn5]
    refine XS.istoreN X3.here hx rfl (hb hby d17_5) rfl (l' := #[rv a1, iv (1 : Int32), iv (0 : Int32), uu]) rfl ?_
    refine XS.iloadN X3.here hx rfl (hb hby d17_6) rfl ?_
    refine XS.ifNo X3.here hx rfl (hb hby d17_7) rfl ((if0 _ _).trans (flt (by decide : ¬ ((0 : Int32) < (0 : Int32)))).2.2.1) ?_
    refine XS.aloadN X3.here hx rfl (hb hby d17_10) rfl rfl ?_
    refine st6 _ ?_
    refine st7 _ ?_
    refine Jvm.RoadKit.acmp (g := (mkF m 17 #[rv a1, iv (1 : Int32), iv (0 : Int32), uu] [(.ref w2), (.ref w2)])) X7 hx rfl rfl rfl (pc0 := 17) (pc' := 45) (same := true) rfl (hb hby d17_17) rfl (decide_eq_true rfl) (by decide) (by decide) ?_
    refine XS.aloadN X7.here hx rfl (hb hby d17_45) rfl rfl ?_
    show SS p e below T7 m 46 #[rv a1, iv (1 : Int32), iv (0 : Int32), uu] [(.ref a1)] _
    refine XS.bipush X7.here hx rfl (hb hby d17_46) ?_
    refine XS.iloadN X7.here hx rfl (hb hby d17_48) rfl ?_
    refine st8 _ ?_
    refine st9 _ ?_
    refine XS.dupX1 X9.here hx rfl (hb hby d17_55) rfl rfl rfl ?_
    refine st12 _ ?_
    show SS p e below T12 m 59 #[rv a1, iv (1 : Int32), iv (0 : Int32), uu] [(.ref b9)] _
    exact own_retR X12 hx hret rfl rfl rfl (hb hby d17_59) hr
  · exact ⟨b9, k9, rfl, N12, KK12, sz_b9, Fw12, fc13, fc14, fc16, O9, fc17⟩
theorem pd_14 : parseMethodDescriptor "(I)[Ljava/lang/Object;" = some ⟨[.int], some (.array (.object "java/lang/Object"))⟩ := by decide +kernel
theorem cw20 {a0 Z} (hw : HW a0 Z) : CP a0 Z s44 69 mn17 1 (.code mn17 jdk_38_method_6_code 4 (some (.array (.object s37)))) :=
  ⟨wx hw 129 rfl, wx hw 130 rfl, wx hw 132 rfl, fun _ hZ => Cond.privateMethod_at (mvP hZ (wd131 hw) (args := #[])), wx hw 133 rfl, wx hw 85 rfl, by decide, _, _, pd_14, rfl⟩
theorem d16_10 : DC cb16 10 (.areturn) 1 := by decide +kernel
theorem ef_16_19 (m : MethodId) (x0 : Addr) : entryFrame m #[(.ref x0)] 1 = mkF m 0 #[.val (.ref x0)] [] := by first | (simp [entryFrame, mkF, argsToLocals, Value.category]; done) | rfl
theorem rm16_0 (l : Launch) (Z : State) (a0 : Array Value) (hw : HW a0 Z) (a1 w3 : Addr) (k4 : ClassId) (h0 : Heap) (n0 : Nat) (OL0 : Old Z n0 h0) (pr1 : Fld Z h0 a1 s44 "size" "I" (.int (0 : Int32))) (pr2 : Fld Z h0 a1 s44 s32 s21 (.ref w3)) (pr3 : Arv Z Z.heap w3 k4 (.object s37) (0 : Int32) [] .null) (pr4 : Sta Z Z.heap s44 s2 s21 (.ref w3)) (pr5 : Exa Z h0 a1 s44) (pr6 : n0 ≤ a1) (pr7 : Fld Z h0 a1 s43 s57 "I" (.int (1 : Int32))) :
    MF l Z mn16 jdk_38_method_7_code 1 (some (.array (.object s37))) ⟨2, 1, 10, 29⟩ #[(.ref a1)] h0 (fun v h L => ∃ b5_0 : Addr, ∃ kx5_0 : ClassId, v = some (.ref b5_0) ∧ Fr n0 L ∧ Keep h0 h [a1] ∧ h0.size ≤ b5_0 ∧ Fld Z h a1 s44 "size" "I" (.int (0 : Int32)) ∧ Fld Z h a1 s44 s32 s21 (.ref b5_0) ∧ Fld Z h a1 s43 s57 "I" (.int (1 : Int32)) ∧ Arv Z h b5_0 kx5_0 (.object s37) (10 : Int32) [.null, .null, .null, .null, .null, .null, .null, .null, .null, .null] .null ∧ Ovr Z kx5_0 s37 ∧ Exa Z h b5_0 s21) := by
  refine own_start (plainFor_of_name pn_6) (fun m => (ef_16_19 m a1)) ?_
  intro p e s m below meth c s₁ hZ hx hby hml hown hnm hret X0 e0
  have N0 := Fr.nil n0
  obtain ⟨T2, X2, e2, st2⟩ := gF X0 hx hZ hown (wd117 hw) Via.refl e0 pr1 2 #[rv a1] [(.ref a1)] (hb hby d16_2)
  obtain ⟨_, T5, L5, X5, hQ5, st5⟩ := own_cP X2 hx hZ hown hml (cw20 hw) (rm17_0 l Z a0 hw a1 w3 k4 h0 n0 OL0 pr2 pr3 pr4 pr5 pr6 pr1 pr7) e2 pr5 7 #[rv a1] [(.int (1 : Int32))] [] 0 rfl (hb hby d16_7) (by decide)
  obtain ⟨b5_0, kx5_0, rfl, Nq5, K5, u5_0, u5_1, u5_2, u5_3, u5_4, u5_5, u5_6⟩ := hQ5
  have KK5 : Keep h0 T5.heap [a1] := (Keep.refl h0 [a1]).trans K5 (allS (Or.inl (List.mem_of_getElem? (i := 0) rfl)) all0)
  have sz_b5_0 : h0.size ≤ b5_0 := Nat.le_trans (Keep.refl h0 [a1]).1 u5_0
  have N5 := Fr.app N0 Nq5
  refine ⟨some (.ref b5_0), _, _, _, _, _, X5, rfl, by decide, nofun, fun fs hr => ?_, ?_⟩
  · refine XS.aloadN X0.here hx rfl (hb hby d16_0) rfl rfl ?_
    show SS p e below s₁ m 1 #[rv a1] [(.ref a1)] _
    refine XS.aloadN X0.here hx rfl (hb hby d16_1) rfl rfl ?_
    refine st2 _ ?_
    refine XS.iconst X2.here hx rfl (hb hby d16_5) ?_
    refine XS.iadd X2.here hx rfl (hb hby d16_6) rfl ?_
    refine st5 _ ?_
    show SS p e below T5 m 10 #[rv a1] [(.ref b5_0)] _
    exact own_retR X5 hx hret rfl rfl rfl (hb hby d16_10) hr
  · exact ⟨b5_0, kx5_0, rfl, N5, KK5, sz_b5_0, u5_2, u5_1, u5_3, u5_4, u5_5, u5_6⟩
theorem pd_15 : parseMethodDescriptor "()[Ljava/lang/Object;" = some ⟨[], some (.array (.object "java/lang/Object"))⟩ := by decide +kernel
theorem cw21 {a0 Z} (hw : HW a0 Z) : CP a0 Z s44 129 mn16 0 (.code mn16 jdk_38_method_7_code 1 (some (.array (.object s37)))) :=
  ⟨wx hw 124 rfl, wx hw 125 rfl, wx hw 127 rfl, fun _ hZ => Cond.privateMethod_at (mvP hZ (wd126 hw) (args := #[])), wx hw 128 rfl, wx hw 85 rfl, by decide, _, _, pd_15, rfl⟩
theorem d15_10 : DC cb15 10 (.astore_n 2) 1 := by decide +kernel
theorem d15_11 : DC cb15 11 (.aload_n 2) 1 := by decide +kernel
theorem d15_12 : DC cb15 12 (.iload_n 3) 1 := by decide +kernel
theorem d15_13 : DC cb15 13 (.aload_n 1) 1 := by decide +kernel
theorem d15_14 : DC cb15 14 (.aastore) 1 := by decide +kernel
theorem d15_15 : DC cb15 15 (.aload_n 0) 1 := by decide +kernel
theorem d15_16 : DC cb15 16 (.iload_n 3) 1 := by decide +kernel
theorem d15_17 : DC cb15 17 (.iconst 1) 1 := by decide +kernel
theorem d15_18 : DC cb15 18 (.iadd) 1 := by decide +kernel
theorem d15_19 : DC cb15 19 (.putfield 48) 3 := by decide +kernel
theorem d15_22 : DC cb15 22 (.return_) 1 := by decide +kernel
theorem ef_15_20 (m : MethodId) (x0 : Addr) (x1 : Addr) (x2 : Addr) : entryFrame m #[(.ref x0), (.ref x1), (.ref x2), (.int (0 : Int32))] 4 = mkF m 0 #[.val (.ref x0), .val (.ref x1), .val (.ref x2), .val (.int (0 : Int32))] [] := by first | (simp [entryFrame, mkF, argsToLocals, Value.category]; done) | rfl
theorem rm15_0 (l : Launch) (Z : State) (a0 : Array Value) (hw : HW a0 Z) (a1 a2 w3 : Addr) (k4 : ClassId) (h0 : Heap) (n0 : Nat) (OL0 : Old Z n0 h0) (pr1 : Arv Z Z.heap w3 k4 (.object s37) (0 : Int32) [] .null) (pr2 : Fld Z h0 a1 s44 "size" "I" (.int (0 : Int32))) (pr3 : Fld Z h0 a1 s44 s32 s21 (.ref w3)) (pr4 : Sta Z Z.heap s44 s2 s21 (.ref w3)) (pr5 : Exa Z h0 a1 s44) (pr6 : n0 ≤ a1) (pr7 : Fld Z h0 a1 s43 s57 "I" (.int (1 : Int32))) (pr8 : Exa Z h0 a2 s29) :
    MF l Z mn15 jdk_38_method_24_code 4 none ⟨3, 1, 10, 41⟩ #[(.ref a1), (.ref a2), (.ref w3), (.int (0 : Int32))] h0 (fun v h L => ∃ b6_0 : Addr, ∃ kx6_0 : ClassId, v = none ∧ Fr n0 L ∧ Keep h0 h [a1] ∧ h0.size ≤ b6_0 ∧ Fld Z h a1 s44 "size" "I" (.int (1 : Int32)) ∧ Fld Z h a1 s44 s32 s21 (.ref b6_0) ∧ Fld Z h a1 s43 s57 "I" (.int (1 : Int32)) ∧ Arv Z h b6_0 kx6_0 (.object s37) (10 : Int32) [(.ref a2), .null, .null, .null, .null, .null, .null, .null, .null, .null] .null ∧ Ovr Z kx6_0 s37 ∧ Exa Z h b6_0 s21) := by
  refine own_start (plainFor_of_name pn_6) (fun m => (ef_15_20 m a1 a2 w3)) ?_
  intro p e s m below meth c s₁ hZ hx hby hml hown hnm hret X0 e0
  have N0 := Fr.nil n0
  obtain ⟨cl5, Ar5, -, Sz5, Nn5, -, -⟩ := id (pr1.ext OL0.2)
  obtain ⟨_, T6, L6, X6, hQ6, st6⟩ := own_cP X0 hx hZ hown hml (cw21 hw) (rm16_0 l Z a0 hw a1 w3 k4 h0 n0 OL0 pr2 pr3 pr1 pr4 pr5 pr6 pr7) e0 pr5 7 #[rv a1, rv a2, rv w3, iv (0 : Int32)] [] [] 0 rfl (hb hby d15_7) (by decide)
  obtain ⟨b6_0, kx6_0, rfl, Nq6, K6, u6_0, u6_1, u6_2, u6_3, u6_4, u6_5, u6_6⟩ := hQ6
  have KK6 : Keep h0 T6.heap [a1] := (Keep.refl h0 [a1]).trans K6 (allS (Or.inl (List.mem_of_getElem? (i := 0) rfl)) all0)
  have g_b6_0 : n0 ≤ b6_0 := Nat.le_trans (Nat.le_trans (Nat.le_of_eq OL0.1.symm) OL0.2.1) u6_0
  have sz_b6_0 : h0.size ≤ b6_0 := Nat.le_trans (Keep.refl h0 [a1]).1 u6_0
  have N6 := Fr.app N0 Nq6
  obtain ⟨cl7, Ar7, q7, S7, M7, Hs7, G7⟩ := id u6_4
  have hin7 : ¬ ((0 : Int32) < 0 ∨ cl7.slots.size ≤ ((0 : Int32)).toNatClampNeg) := inb_of S7 ⟨by decide, by decide⟩
  have fc8 := (pr8.keep K6)
  obtain ⟨T9, h9, X9, e9, W9, st9⟩ := stR X6 hx hZ rfl Ar7 (j := (0 : Int32)) hin7 rfl (Sto.ofV Ar7 q7 u6_5 (Ins.of_exa fc8 (wd140 hw))) (g := (mkF m 14 #[rv a1, rv a2, rv b6_0, iv (0 : Int32)] [(.ref a2), (.int (0 : Int32)), (.ref b6_0)])) rfl rfl (hb hby d15_14)
  have V9 : Arv Z h9 b6_0 kx6_0 (.object s37) (10 : Int32) [(.ref a2), .null, .null, .null, .null, .null, .null, .null, .null, .null] .null := Arv.set Ar7 q7 S7 M7 Hs7 G7 rfl W9 0 rfl (Nat.le_of_ble_eq_true rfl)
  have KK9 : Keep h0 h9 [a1] := KK6.wr W9 (Or.inr sz_b6_0)
  have N9 := Fr.snoc X9 N6 g_b6_0
  have fc10 := ((pr5.keep K6).wr W9)
  have nz11 := nl pr7.lt sz_b6_0
  have fc12 := (u6_1.other W9 (Or.inl nz11))
  obtain ⟨T13, h13, X13, e13, W13, st13⟩ := putF X9 hx hZ hown (host := "") (Or.inl (wd117 hw)) Via.refl e9 fc12 fc10 (Or.inl (wd118 hw)) (wd84 hw) (ty := .int) (by decide) rfl rfl (g := (mkF m 19 #[rv a1, rv a2, rv b6_0, iv (0 : Int32)] [(.int (1 : Int32)), (.ref a1)])) rfl rfl (hb hby d15_19)
  have Fw13 := fc12.same W13
  have KK13 : Keep h0 h13 [a1] := KK9.wr W13 (Or.inl (List.mem_of_getElem? (i := 0) rfl))
  have N13 := Fr.snoc X13 N9 pr6
  have fc14 := ((u6_2.other W9 (Or.inl nz11)).other W13 (Or.inr (slot_ne (Or.inl (wd106 hw)) (Or.inl (wd118 hw)) (by decide) (t := (.array (.object s37))) (t' := .int) (by decide) (by decide))))
  have fc15 := ((u6_3.other W9 (Or.inl nz11)).other W13 (Or.inr (slot_ne (Or.inl (wd103 hw)) (Or.inl (wd118 hw)) (by decide) (t := .int) (t' := .int) (by decide) (by decide))))
  have fc16 := (V9.other W13 (Ne.symm nz11))
  have fc17 := ((u6_6.wr W9).wr W13)
  refine ⟨none, _, _, _, _, _, X13, e13, by decide, fun _ => rfl, fun fs hr => ?_, ?_⟩
  · refine XS.iloadN X0.here hx rfl (hb hby d15_0) rfl ?_
    show SS p e below s₁ m 1 #[rv a1, rv a2, rv w3, iv (0 : Int32)] [(.int (0 : Int32))] _
    refine XS.aloadN X0.here hx rfl (hb hby d15_1) rfl rfl ?_
    refine X0.arraylength hx (by rw [e0]; exact Ar5.1) (State.isArrayOf_alike hZ.alike Ar5.2.1) (g := (mkF m 2 #[rv a1, rv a2, rv w3, iv (0 : Int32)] [(.ref w3), (.int (0 : Int32))])) rfl rfl (hb hby d15_2) _ ?_
    rw [len_of Sz5 Nn5]
    refine XS.icmpNo X0.here hx rfl (hb hby d15_3) rfl (teq (rfl : (0 : Int32) = (0 : Int32))).2 ?_
    refine XS.aloadN X0.here hx rfl (hb hby d15_6) rfl rfl ?_
    refine st6 _ ?_
    refine XS.astoreN X6.here hx rfl (hb hby d15_10) rfl rfl (l' := #[rv a1, rv a2, rv b6_0, iv (0 : Int32)]) rfl ?_
    refine XS.aloadN X6.here hx rfl (hb hby d15_11) rfl rfl ?_
    refine XS.iloadN X6.here hx rfl (hb hby d15_12) rfl ?_
    refine XS.aloadN X6.here hx rfl (hb hby d15_13) rfl rfl ?_
    refine st9 _ ?_
    show SS p e below T9 m 15 #[rv a1, rv a2, rv b6_0, iv (0 : Int32)] [] _
    refine XS.aloadN X9.here hx rfl (hb hby d15_15) rfl rfl ?_
    refine XS.iloadN X9.here hx rfl (hb hby d15_16) rfl ?_
    refine XS.iconst X9.here hx rfl (hb hby d15_17) ?_
    refine XS.iadd X9.here hx rfl (hb hby d15_18) rfl ?_
    refine st13 _ ?_
    show SS p e below T13 m 22 #[rv a1, rv a2, rv b6_0, iv (0 : Int32)] [] _
    exact X13.returnOut hx hret (hb hby d15_22) hr
  · exact ⟨b6_0, kx6_0, rfl, N13, KK13, sz_b6_0, Fw13, fc14, fc15, fc16, u6_5, fc17⟩
theorem pd_16 : parseMethodDescriptor "(Ljava/lang/Object;[Ljava/lang/Object;I)V" = some ⟨[(.object "java/lang/Object"), (.array (.object "java/lang/Object")), .int], none⟩ := by decide +kernel
theorem cw22 {a0 Z} (hw : HW a0 Z) : CP a0 Z s44 131 mn15 3 (.code mn15 jdk_38_method_24_code 4 none) :=
  ⟨wx hw 119 rfl, wx hw 120 rfl, wx hw 122 rfl, fun _ hZ => Cond.privateMethod_at (mvP hZ (wd121 hw) (args := #[])), wx hw 123 rfl, wx hw 85 rfl, by decide, _, _, pd_16, rfl⟩
theorem d14_23 : DC cb14 23 (.iconst 1) 1 := by decide +kernel
theorem d14_24 : DC cb14 24 (.ireturn) 1 := by decide +kernel
theorem ef_14_21 (m : MethodId) (x0 : Addr) (x1 : Addr) : entryFrame m #[(.ref x0), (.ref x1)] 2 = mkF m 0 #[.val (.ref x0), .val (.ref x1)] [] := by first | (simp [entryFrame, mkF, argsToLocals, Value.category]; done) | rfl
theorem rm14_0 (l : Launch) (Z : State) (a0 : Array Value) (hw : HW a0 Z) (a1 a2 w5 : Addr) (k10 : ClassId) (h0 : Heap) (n0 : Nat) (OL0 : Old Z n0 h0) (pr1 : Fld Z h0 a1 s43 s57 "I" (.int (0 : Int32))) (pr2 : Exa Z h0 a1 s44) (pr3 : n0 ≤ a1) (pr4 : Fld Z h0 a1 s44 s32 s21 (.ref w5)) (pr5 : Fld Z h0 a1 s44 "size" "I" (.int (0 : Int32))) (pr6 : Arv Z Z.heap w5 k10 (.object s37) (0 : Int32) [] .null) (pr7 : Sta Z Z.heap s44 s2 s21 (.ref w5)) (pr8 : Exa Z h0 a2 s29) :
    MF l Z mn14 jdk_38_method_25_code 2 (some .boolean) ⟨4, 1, 10, 56⟩ #[(.ref a1), (.ref a2)] h0 (fun v h L => ∃ b11_0 : Addr, ∃ kx11_0 : ClassId, v = some (.int (1 : Int32)) ∧ Fr n0 L ∧ Keep h0 h [a1] ∧ h0.size ≤ b11_0 ∧ Fld Z h a1 s43 s57 "I" (.int (1 : Int32)) ∧ Fld Z h a1 s44 s32 s21 (.ref b11_0) ∧ Fld Z h a1 s44 "size" "I" (.int (1 : Int32)) ∧ Arv Z h b11_0 kx11_0 (.object s37) (10 : Int32) [(.ref a2), .null, .null, .null, .null, .null, .null, .null, .null, .null] .null ∧ Ovr Z kx11_0 s37 ∧ Exa Z h b11_0 s21) := by
  refine own_start (plainFor_of_name pn_6) (fun m => (ef_14_21 m a1 a2)) ?_
  intro p e s m below meth c s₁ hZ hx hby hml hown hnm hret X0 e0
  have N0 := Fr.nil n0
  obtain ⟨T3, X3, e3, st3⟩ := gF X0 hx hZ hown (wd115 hw) (Via.of (wd116 hw)) e0 pr1 2 #[rv a1, rv a2] [(.ref a1)] (hb hby d14_2)
  obtain ⟨T4, h4, X4, e4, W4, st4⟩ := putF X3 hx hZ hown (host := "") (Or.inl (wd115 hw)) (Via.of (wd116 hw)) e3 pr1 pr2 (Or.inl (wd103 hw)) (wd84 hw) (ty := .int) (by decide) rfl rfl (g := (mkF m 7 #[rv a1, rv a2] [(.int (1 : Int32)), (.ref a1)])) rfl rfl (hb hby d14_7)
  have Fw4 := pr1.same W4
  have KK4 : Keep h0 h4 [a1] := (Keep.refl h0 [a1]).wr W4 (Or.inl (List.mem_of_getElem? (i := 0) rfl))
  have OL4 := OL0.wr W4 pr3
  have N4 := Fr.snoc X4 N0 pr3
  have fc6 := (pr4.other W4 (Or.inr (slot_ne (Or.inl (wd106 hw)) (Or.inl (wd103 hw)) (by decide) (t := (.array (.object s37))) (t' := .int) (by decide) (by decide))))
  obtain ⟨T7, X7, e7, st7⟩ := gF X4 hx hZ hown (wd105 hw) Via.refl e4 fc6 13 #[rv a1, rv a2] [(.ref a2), (.ref a1)] (hb hby d14_13)
  have fc8 := (pr5.other W4 (Or.inr (slot_ne (Or.inl (wd118 hw)) (Or.inl (wd103 hw)) (by decide) (t := .int) (t' := .int) (by decide) (by decide))))
  obtain ⟨T9, X9, e9, st9⟩ := gF X7 hx hZ hown (wd117 hw) Via.refl e7 fc8 17 #[rv a1, rv a2] [(.ref w5), (.ref a2), (.ref a1)] (hb hby d14_17)
  have fc12 := (pr2.wr W4)
  have fc13 := (pr8.wr W4)
  obtain ⟨_, T11, L11, X11, hQ11, st11⟩ := own_cP X9 hx hZ hown hml (cw22 hw) (rm15_0 l Z a0 hw a1 a2 w5 k10 h4 n0 OL4 pr6 fc8 fc6 pr7 fc12 pr3 Fw4 fc13) e9 fc12 20 #[rv a1, rv a2] [(.ref a2), (.ref w5), (.int (0 : Int32))] [] 0 rfl (hb hby d14_20) (by decide)
  obtain ⟨b11_0, kx11_0, rfl, Nq11, K11, u11_0, u11_1, u11_2, u11_3, u11_4, u11_5, u11_6⟩ := hQ11
  have KK11 : Keep h0 T11.heap [a1] := KK4.trans K11 (allS (Or.inl (List.mem_of_getElem? (i := 0) rfl)) all0)
  have sz_b11_0 : h0.size ≤ b11_0 := Nat.le_trans KK4.1 u11_0
  have N11 := Fr.app N4 Nq11
  refine ⟨some (.int (1 : Int32)), _, _, _, _, _, X11, rfl, by decide, nofun, fun fs hr => ?_, ?_⟩
  · refine XS.aloadN X0.here hx rfl (hb hby d14_0) rfl rfl ?_
    show SS p e below s₁ m 1 #[rv a1, rv a2] [(.ref a1)] _
    refine XS.dup X0.here hx rfl (hb hby d14_1) rfl rfl ?_
    refine st3 _ ?_
    refine XS.iconst X3.here hx rfl (hb hby d14_5) ?_
    refine XS.iadd X3.here hx rfl (hb hby d14_6) rfl ?_
    refine st4 _ ?_
    refine XS.aloadN X4.here hx rfl (hb hby d14_10) rfl rfl ?_
    refine XS.aloadN X4.here hx rfl (hb hby d14_11) rfl rfl ?_
    refine XS.aloadN X4.here hx rfl (hb hby d14_12) rfl rfl ?_
    refine st7 _ ?_
    refine XS.aloadN X7.here hx rfl (hb hby d14_16) rfl rfl ?_
    show SS p e below T7 m 17 #[rv a1, rv a2] [(.ref a1), (.ref w5), (.ref a2), (.ref a1)] _
    refine st9 _ ?_
    refine st11 _ ?_
    refine XS.iconst X11.here hx rfl (hb hby d14_23) ?_
    show SS p e below T11 m 24 #[rv a1, rv a2] [(.int (1 : Int32))] _
    exact retN X11 hx (t := .boolean) hret (by simp) (hb hby d14_24) hr
  · exact ⟨b11_0, kx11_0, rfl, N11, KK11, sz_b11_0, u11_3, u11_2, u11_1, u11_4, u11_5, u11_6⟩
theorem pd_17 : parseMethodDescriptor "(Ljava/lang/Object;)Z" = some ⟨[(.object "java/lang/Object")], some .boolean⟩ := by decide +kernel
theorem cw23 {a0 Z} (hw : HW a0 Z) : CV a0 Z s28 16 mn14 mn14 s44 1 (.code mn14 jdk_38_method_25_code 2 (some .boolean)) :=
  ⟨wx hw 110 rfl, wx hw 111 rfl, (fun _ hZ => notFace_of_selects (args := #[]) (mvT hZ (wd113 hw))), wx hw 113 rfl, wx hw 112 rfl, wx hw 114 rfl, wx hw 85 rfl, by decide, _, _, pd_17, rfl⟩
theorem d34_0 : DC cb34 0 (.aload_n 0) 1 := by decide +kernel
theorem d34_1 : DC cb34 1 (.getfield 13) 3 := by decide +kernel
theorem d34_4 : DC cb34 4 (.areturn) 1 := by decide +kernel
theorem ef_34_22 (m : MethodId) (x0 : Addr) : entryFrame m #[(.ref x0)] 1 = mkF m 0 #[.val (.ref x0)] [] := by first | (simp [entryFrame, mkF, argsToLocals, Value.category]; done) | rfl
theorem rm34_0 (l : Launch) (Z : State) (a0 : Array Value) (hw : HW a0 Z) (a1 a2 : Addr) (h0 : Heap) (n0 : Nat) (OL0 : Old Z n0 h0) (pr1 : Fld Z h0 a1 s27 "id" s11 (.ref a2)) :
    MF l Z mn34 prog_22_method_9_code 1 (some (.object s39)) ⟨0, 0, 0, 0⟩ #[(.ref a1)] h0 (QR n0 h0 (some (.ref a2))) := by
  refine own_start (plainFor_of_name pn_10) (fun m => (ef_34_22 m a1)) ?_
  intro p e s m below meth c s₁ hZ hx hby hml hown hnm hret X0 e0
  have N0 := Fr.nil n0
  obtain ⟨T3, X3, e3, st3⟩ := gF X0 hx hZ hown (wd234 hw) Via.refl e0 pr1 1 #[rv a1] [] (hb hby d34_1)
  refine ⟨some (.ref a2), _, _, _, _, _, X3, e3, by decide, nofun, fun fs hr => ?_, ?_⟩
  · refine XS.aloadN X0.here hx rfl (hb hby d34_0) rfl rfl ?_
    show SS p e below s₁ m 1 #[rv a1] [(.ref a1)] _
    refine st3 _ ?_
    show SS p e below T3 m 4 #[rv a1] [(.ref a2)] _
    exact own_retR X3 hx hret rfl rfl rfl (hb hby d34_4) hr
  · exact ⟨rfl, N0, rfl⟩
theorem pd_18 : parseMethodDescriptor "()Ljava/lang/String;" = some ⟨[], some (.object "java/lang/String")⟩ := by decide +kernel
theorem cw24 {a0 Z} (hw : HW a0 Z) : CV a0 Z s28 93 mn34 mn34 s27 0 (.code mn34 prog_22_method_9_code 1 (some (.object s39))) :=
  ⟨wx hw 257 rfl, wx hw 258 rfl, (fun _ hZ => notFace_of_selects (args := #[]) (mvT hZ (wd260 hw))), wx hw 260 rfl, wx hw 259 rfl, wx hw 261 rfl, wx hw 143 rfl, by decide, _, _, pd_18, rfl⟩
theorem d35_0 : DC cb35 0 (.aload_n 0) 1 := by decide +kernel
theorem d35_1 : DC cb35 1 (.aload_n 1) 1 := by decide +kernel
theorem d35_2 : DC cb35 2 (.if_acmp .ne 5) 3 := by decide +kernel
theorem d35_5 : DC cb35 5 (.iconst 1) 1 := by decide +kernel
theorem d35_6 : DC cb35 6 (.ireturn) 1 := by decide +kernel
theorem ef_35_23 (m : MethodId) (x0 : Addr) (x1 : Addr) : entryFrame m #[(.ref x0), (.ref x1)] 3 = mkF m 0 #[.val (.ref x0), .val (.ref x1), .unset] [] := by first | (simp [entryFrame, mkF, argsToLocals, Value.category]; done) | rfl
theorem rm35_0 (l : Launch) (Z : State) (a0 : Array Value) (hw : HW a0 Z) (a1 : Addr) (h0 : Heap) (n0 : Nat) (OL0 : Old Z n0 h0)  :
    MF l Z mn35 jdk_42_method_66_code 3 (some .boolean) ⟨0, 0, 0, 0⟩ #[(.ref a1), (.ref a1)] h0 (QR n0 h0 (some (.int (1 : Int32)))) := by
  refine own_start (plainFor_of_name pn_3) (fun m => (ef_35_23 m a1 a1)) ?_
  intro p e s m below meth c s₁ hZ hx hby hml hown hnm hret X0 e0
  have N0 := Fr.nil n0
  refine ⟨some (.int (1 : Int32)), _, _, _, _, _, X0, e0, by decide, nofun, fun fs hr => ?_, ?_⟩
  · refine XS.aloadN X0.here hx rfl (hb hby d35_0) rfl rfl ?_
    show SS p e below s₁ m 1 #[rv a1, rv a1, uu] [(.ref a1)] _
    refine XS.aloadN X0.here hx rfl (hb hby d35_1) rfl rfl ?_
    refine Jvm.RoadKit.acmp (g := (mkF m 2 #[rv a1, rv a1, uu] [(.ref a1), (.ref a1)])) X0 hx rfl rfl rfl (pc0 := 2) (pc' := 5) (same := true) rfl (hb hby d35_2) rfl (decide_eq_true rfl) (by decide) (by decide) ?_
    refine XS.iconst X0.here hx rfl (hb hby d35_5) ?_
    show SS p e below s₁ m 6 #[rv a1, rv a1, uu] [(.int (1 : Int32))] _
    exact retN X0 hx (t := .boolean) hret (by simp) (hb hby d35_6) hr
  · exact ⟨rfl, N0, rfl⟩
theorem cw25 {a0 Z} (hw : HW a0 Z) : CV a0 Z s28 97 mn35 mn35 s39 1 (.code mn35 jdk_42_method_66_code 3 (some .boolean)) :=
  ⟨wx hw 262 rfl, wx hw 263 rfl, (fun _ hZ => notFace_of_selects (args := #[]) (mvT hZ (wd265 hw))), wx hw 265 rfl, wx hw 264 rfl, wx hw 266 rfl, wx hw 24 rfl, by decide, _, _, pd_17, rfl⟩
theorem d36_0 : DC cb36 0 (.aload_n 0) 1 := by decide +kernel
theorem d36_1 : DC cb36 1 (.getfield 19) 3 := by decide +kernel
theorem d36_4 : DC cb36 4 (.areturn) 1 := by decide +kernel
theorem ef_36_24 (m : MethodId) (x0 : Addr) : entryFrame m #[(.ref x0)] 1 = mkF m 0 #[.val (.ref x0)] [] := by first | (simp [entryFrame, mkF, argsToLocals, Value.category]; done) | rfl
theorem rm36_0 (l : Launch) (Z : State) (a0 : Array Value) (hw : HW a0 Z) (a1 a2 : Addr) (h0 : Heap) (n0 : Nat) (OL0 : Old Z n0 h0) (pr1 : Fld Z h0 a1 s27 "name" s11 (.ref a2)) :
    MF l Z mn36 prog_22_method_10_code 1 (some (.object s39)) ⟨0, 0, 0, 0⟩ #[(.ref a1)] h0 (QR n0 h0 (some (.ref a2))) := by
  refine own_start (plainFor_of_name pn_10) (fun m => (ef_36_24 m a1)) ?_
  intro p e s m below meth c s₁ hZ hx hby hml hown hnm hret X0 e0
  have N0 := Fr.nil n0
  obtain ⟨T3, X3, e3, st3⟩ := gF X0 hx hZ hown (wd236 hw) Via.refl e0 pr1 1 #[rv a1] [] (hb hby d36_1)
  refine ⟨some (.ref a2), _, _, _, _, _, X3, e3, by decide, nofun, fun fs hr => ?_, ?_⟩
  · refine XS.aloadN X0.here hx rfl (hb hby d36_0) rfl rfl ?_
    show SS p e below s₁ m 1 #[rv a1] [(.ref a1)] _
    refine st3 _ ?_
    show SS p e below T3 m 4 #[rv a1] [(.ref a2)] _
    exact own_retR X3 hx hret rfl rfl rfl (hb hby d36_4) hr
  · exact ⟨rfl, N0, rfl⟩
theorem cw26 {a0 Z} (hw : HW a0 Z) : CV a0 Z s28 100 mn36 mn36 s27 0 (.code mn36 prog_22_method_10_code 1 (some (.object s39))) :=
  ⟨wx hw 267 rfl, wx hw 268 rfl, (fun _ hZ => notFace_of_selects (args := #[]) (mvT hZ (wd270 hw))), wx hw 270 rfl, wx hw 269 rfl, wx hw 271 rfl, wx hw 143 rfl, by decide, _, _, pd_18, rfl⟩
theorem d37_0 : DC cb37 0 (.aload_n 0) 1 := by decide +kernel
theorem d37_1 : DC cb37 1 (.getfield 22) 3 := by decide +kernel
theorem d37_4 : DC cb37 4 (.areturn) 1 := by decide +kernel
theorem ef_37_25 (m : MethodId) (x0 : Addr) : entryFrame m #[(.ref x0)] 1 = mkF m 0 #[.val (.ref x0)] [] := by first | (simp [entryFrame, mkF, argsToLocals, Value.category]; done) | rfl
theorem rm37_0 (l : Launch) (Z : State) (a0 : Array Value) (hw : HW a0 Z) (a1 w2 : Addr) (h0 : Heap) (n0 : Nat) (OL0 : Old Z n0 h0) (pr1 : Fld Z h0 a1 s27 "basis" s9 (.ref w2)) :
    MF l Z mn37 prog_22_method_11_code 1 (some (.object s26)) ⟨0, 0, 0, 0⟩ #[(.ref a1)] h0 (QR n0 h0 (some (.ref w2))) := by
  refine own_start (plainFor_of_name pn_10) (fun m => (ef_37_25 m a1)) ?_
  intro p e s m below meth c s₁ hZ hx hby hml hown hnm hret X0 e0
  have N0 := Fr.nil n0
  obtain ⟨T3, X3, e3, st3⟩ := gF X0 hx hZ hown (wd238 hw) Via.refl e0 pr1 1 #[rv a1] [] (hb hby d37_1)
  refine ⟨some (.ref w2), _, _, _, _, _, X3, e3, by decide, nofun, fun fs hr => ?_, ?_⟩
  · refine XS.aloadN X0.here hx rfl (hb hby d37_0) rfl rfl ?_
    show SS p e below s₁ m 1 #[rv a1] [(.ref a1)] _
    refine st3 _ ?_
    show SS p e below T3 m 4 #[rv a1] [(.ref w2)] _
    exact own_retR X3 hx hret rfl rfl rfl (hb hby d37_4) hr
  · exact ⟨rfl, N0, rfl⟩
theorem pd_19 : parseMethodDescriptor "()Lcom/example/tarcal/tarcal/schedules/Basis;" = some ⟨[], some (.object "com/example/tarcal/tarcal/schedules/Basis")⟩ := by decide +kernel
theorem cw27 {a0 Z} (hw : HW a0 Z) : CV a0 Z s28 103 mn37 mn37 s27 0 (.code mn37 prog_22_method_11_code 1 (some (.object s26))) :=
  ⟨wx hw 272 rfl, wx hw 273 rfl, (fun _ hZ => notFace_of_selects (args := #[]) (mvT hZ (wd275 hw))), wx hw 275 rfl, wx hw 274 rfl, wx hw 276 rfl, wx hw 143 rfl, by decide, _, _, pd_19, rfl⟩
theorem d38_0 : DC cb38 0 (.aload_n 0) 1 := by decide +kernel
theorem d38_1 : DC cb38 1 (.getfield 26) 3 := by decide +kernel
theorem d38_4 : DC cb38 4 (.areturn) 1 := by decide +kernel
theorem ef_38_26 (m : MethodId) (x0 : Addr) : entryFrame m #[(.ref x0)] 1 = mkF m 0 #[.val (.ref x0)] [] := by first | (simp [entryFrame, mkF, argsToLocals, Value.category]; done) | rfl
theorem rm38_0 (l : Launch) (Z : State) (a0 : Array Value) (hw : HW a0 Z) (a1 : Addr) (h0 : Heap) (n0 : Nat) (OL0 : Old Z n0 h0) (pr1 : Fld Z h0 a1 s27 "onlyFor" s16 .null) :
    MF l Z mn38 prog_22_method_12_code 1 (some (.object s54)) ⟨0, 0, 0, 0⟩ #[(.ref a1)] h0 (QR n0 h0 (some .null)) := by
  refine own_start (plainFor_of_name pn_10) (fun m => (ef_38_26 m a1)) ?_
  intro p e s m below meth c s₁ hZ hx hby hml hown hnm hret X0 e0
  have N0 := Fr.nil n0
  obtain ⟨T2, X2, e2, st2⟩ := gF X0 hx hZ hown (wd240 hw) Via.refl e0 pr1 1 #[rv a1] [] (hb hby d38_1)
  refine ⟨some .null, _, _, _, _, _, X2, e2, by decide, nofun, fun fs hr => ?_, ?_⟩
  · refine XS.aloadN X0.here hx rfl (hb hby d38_0) rfl rfl ?_
    show SS p e below s₁ m 1 #[rv a1] [(.ref a1)] _
    refine st2 _ ?_
    show SS p e below T2 m 4 #[rv a1] [.null] _
    exact own_retR X2 hx hret rfl rfl rfl (hb hby d38_4) hr
  · exact ⟨rfl, N0, rfl⟩
theorem pd_20 : parseMethodDescriptor "()Ljava/util/Optional;" = some ⟨[], some (.object "java/util/Optional")⟩ := by decide +kernel
theorem cw28 {a0 Z} (hw : HW a0 Z) : CV a0 Z s28 107 mn38 mn38 s27 0 (.code mn38 prog_22_method_12_code 1 (some (.object s54))) :=
  ⟨wx hw 277 rfl, wx hw 278 rfl, (fun _ hZ => notFace_of_selects (args := #[]) (mvT hZ (wd280 hw))), wx hw 280 rfl, wx hw 279 rfl, wx hw 281 rfl, wx hw 143 rfl, by decide, _, _, pd_20, rfl⟩
theorem d39_0 : DC cb39 0 (.aload_n 0) 1 := by decide +kernel
theorem d39_1 : DC cb39 1 (.getfield 30) 3 := by decide +kernel
theorem d39_4 : DC cb39 4 (.areturn) 1 := by decide +kernel
theorem ef_39_27 (m : MethodId) (x0 : Addr) : entryFrame m #[(.ref x0)] 1 = mkF m 0 #[.val (.ref x0)] [] := by first | (simp [entryFrame, mkF, argsToLocals, Value.category]; done) | rfl
theorem rm39_0 (l : Launch) (Z : State) (a0 : Array Value) (hw : HW a0 Z) (a1 : Addr) (h0 : Heap) (n0 : Nat) (OL0 : Old Z n0 h0) (pr1 : Fld Z h0 a1 s27 s24 s16 .null) :
    MF l Z mn39 prog_22_method_13_code 1 (some (.object s54)) ⟨0, 0, 0, 0⟩ #[(.ref a1)] h0 (QR n0 h0 (some .null)) := by
  refine own_start (plainFor_of_name pn_10) (fun m => (ef_39_27 m a1)) ?_
  intro p e s m below meth c s₁ hZ hx hby hml hown hnm hret X0 e0
  have N0 := Fr.nil n0
  obtain ⟨T2, X2, e2, st2⟩ := gF X0 hx hZ hown (wd242 hw) Via.refl e0 pr1 1 #[rv a1] [] (hb hby d39_1)
  refine ⟨some .null, _, _, _, _, _, X2, e2, by decide, nofun, fun fs hr => ?_, ?_⟩
  · refine XS.aloadN X0.here hx rfl (hb hby d39_0) rfl rfl ?_
    show SS p e below s₁ m 1 #[rv a1] [(.ref a1)] _
    refine st2 _ ?_
    show SS p e below T2 m 4 #[rv a1] [.null] _
    exact own_retR X2 hx hret rfl rfl rfl (hb hby d39_4) hr
  · exact ⟨rfl, N0, rfl⟩
theorem cw29 {a0 Z} (hw : HW a0 Z) : CV a0 Z s28 111 mn39 mn39 s27 0 (.code mn39 prog_22_method_13_code 1 (some (.object s54))) :=
  ⟨wx hw 282 rfl, wx hw 283 rfl, (fun _ hZ => notFace_of_selects (args := #[]) (mvT hZ (wd285 hw))), wx hw 285 rfl, wx hw 284 rfl, wx hw 286 rfl, wx hw 143 rfl, by decide, _, _, pd_20, rfl⟩
theorem d40_0 : DC cb40 0 (.aload_n 0) 1 := by decide +kernel
theorem d40_1 : DC cb40 1 (.getfield 33) 3 := by decide +kernel
theorem d40_4 : DC cb40 4 (.areturn) 1 := by decide +kernel
theorem ef_40_28 (m : MethodId) (x0 : Addr) : entryFrame m #[(.ref x0)] 1 = mkF m 0 #[.val (.ref x0)] [] := by first | (simp [entryFrame, mkF, argsToLocals, Value.category]; done) | rfl
theorem rm40_0 (l : Launch) (Z : State) (a0 : Array Value) (hw : HW a0 Z) (a1 w2 : Addr) (h0 : Heap) (n0 : Nat) (OL0 : Old Z n0 h0) (pr1 : Fld Z h0 a1 s27 "prices" s15 (.ref w2)) :
    MF l Z mn40 prog_22_method_14_code 1 (some (.object s52)) ⟨0, 0, 0, 0⟩ #[(.ref a1)] h0 (QR n0 h0 (some (.ref w2))) := by
  refine own_start (plainFor_of_name pn_10) (fun m => (ef_40_28 m a1)) ?_
  intro p e s m below meth c s₁ hZ hx hby hml hown hnm hret X0 e0
  have N0 := Fr.nil n0
  obtain ⟨T3, X3, e3, st3⟩ := gF X0 hx hZ hown (wd244 hw) Via.refl e0 pr1 1 #[rv a1] [] (hb hby d40_1)
  refine ⟨some (.ref w2), _, _, _, _, _, X3, e3, by decide, nofun, fun fs hr => ?_, ?_⟩
  · refine XS.aloadN X0.here hx rfl (hb hby d40_0) rfl rfl ?_
    show SS p e below s₁ m 1 #[rv a1] [(.ref a1)] _
    refine st3 _ ?_
    show SS p e below T3 m 4 #[rv a1] [(.ref w2)] _
    exact own_retR X3 hx hret rfl rfl rfl (hb hby d40_4) hr
  · exact ⟨rfl, N0, rfl⟩
theorem cw30 {a0 Z} (hw : HW a0 Z) : CV a0 Z s28 114 mn40 mn40 s27 0 (.code mn40 prog_22_method_14_code 1 (some (.object s52))) :=
  ⟨wx hw 287 rfl, wx hw 288 rfl, (fun _ hZ => notFace_of_selects (args := #[]) (mvT hZ (wd290 hw))), wx hw 290 rfl, wx hw 289 rfl, wx hw 291 rfl, wx hw 143 rfl, by decide, _, _, pd_9, rfl⟩
theorem d41_0 : DC cb41 0 (.iload_n 1) 1 := by decide +kernel
theorem d41_1 : DC cb41 1 (.iconst 3) 1 := by decide +kernel
theorem d41_2 : DC cb41 2 (.iand) 1 := by decide +kernel
theorem d41_3 : DC cb41 3 (.istore 4) 2 := by decide +kernel
theorem d41_5 : DC cb41 5 (.aload_n 0) 1 := by decide +kernel
theorem d41_6 : DC cb41 6 (.invokeinterface 20 1) 5 := by decide +kernel
theorem d42_0 : DC cb42 0 (.aload_n 0) 1 := by decide +kernel
theorem d42_1 : DC cb42 1 (.getfield 7) 3 := by decide +kernel
theorem d42_4 : DC cb42 4 (.arraylength) 1 := by decide +kernel
theorem d42_5 : DC cb42 5 (.ireturn) 1 := by decide +kernel
theorem ef_42_29 (m : MethodId) (x0 : Addr) : entryFrame m #[(.ref x0)] 1 = mkF m 0 #[.val (.ref x0)] [] := by first | (simp [entryFrame, mkF, argsToLocals, Value.category]; done) | rfl
theorem pn_11 : plainName "java/util/ImmutableCollections$ListN" = true := by first | (simp [plainName, overriddenIn]; done) | decide +kernel
theorem rm42_0 (l : Launch) (Z : State) (a0 : Array Value) (hw : HW a0 Z) (w1 w2 : Addr) (k4 : ClassId) (h0 : Heap) (n0 : Nat) (OL0 : Old Z n0 h0) (pr1 : Fld Z Z.heap w1 s51 s33 s21 (.ref w2)) (pr2 : Arv Z Z.heap w2 k4 (.object s37) (0 : Int32) [] .null) :
    MF l Z mn42 jdk_45_method_3_code 1 (some .int) ⟨0, 0, 0, 0⟩ #[(.ref w1)] h0 (QR n0 h0 (some (.int (0 : Int32)))) := by
  refine own_start (plainFor_of_name pn_11) (fun m => (ef_42_29 m w1)) ?_
  intro p e s m below meth c s₁ hZ hx hby hml hown hnm hret X0 e0
  have N0 := Fr.nil n0
  obtain ⟨T3, X3, e3, st3⟩ := gF X0 hx hZ hown (wd305 hw) Via.refl e0 (pr1.ext OL0.2) 1 #[rv w1] [] (hb hby d42_1)
  obtain ⟨cl5, Ar5, -, Sz5, Nn5, -, -⟩ := id (pr2.ext OL0.2)
  refine ⟨some (.int (0 : Int32)), _, _, _, _, _, X3, e3, by decide, nofun, fun fs hr => ?_, ?_⟩
  · refine XS.aloadN X0.here hx rfl (hb hby d42_0) rfl rfl ?_
    show SS p e below s₁ m 1 #[rv w1] [(.ref w1)] _
    refine st3 _ ?_
    refine X3.arraylength hx (by rw [e3]; exact Ar5.1) (State.isArrayOf_alike hZ.alike Ar5.2.1) (g := (mkF m 4 #[rv w1] [(.ref w2)])) rfl rfl (hb hby d42_4) _ ?_
    rw [len_of Sz5 Nn5]
    show SS p e below T3 m 5 #[rv w1] [(.int (0 : Int32))] _
    exact retI X3 hx hret (hb hby d42_5) hr
  · exact ⟨rfl, N0, rfl⟩
theorem pd_21 : parseMethodDescriptor "()I" = some ⟨[], some .int⟩ := by decide +kernel
theorem cw31 {a0 Z} (hw : HW a0 Z) : CI a0 Z s28 20 (⟨s52, "size", "()I"⟩ : MethodName) mn42 s51 0 (.code mn42 jdk_45_method_3_code 1 (some .int)) :=
  ⟨wx hw 295 rfl, wx hw 296 rfl, ⟨wx hw 297 rfl, by first | rfl | simp [Cond.onTables, Cond.keepsFace, Cond.keeps, Cond.steady]⟩, wx hw 298 rfl, wx hw 299 rfl, wx hw 300 rfl, wx hw 301 rfl, wx hw 302 rfl, wx hw 304 rfl, wx hw 303 rfl, by decide, _, _, pd_21, rfl⟩
theorem d41_11 : DC cb41 11 (.iload 4) 2 := by decide +kernel
theorem d41_13 : DC cb41 13 (.if_icmp .eq 5) 3 := by decide +kernel
theorem d41_18 : DC cb41 18 (.iload 4) 2 := by decide +kernel
theorem d41_20 : DC cb41 20 (.ifCond .le 22) 3 := by decide +kernel
theorem d41_42 : DC cb41 42 (.iload 4) 2 := by decide +kernel
theorem d41_44 : DC cb41 44 (.iconst 1) 1 := by decide +kernel
theorem d41_45 : DC cb41 45 (.if_icmp .le 22) 3 := by decide +kernel
theorem d41_67 : DC cb41 67 (.iload 4) 2 := by decide +kernel
theorem d41_69 : DC cb41 69 (.iconst 2) 1 := by decide +kernel
theorem d41_70 : DC cb41 70 (.if_icmp .le 22) 3 := by decide +kernel
theorem d41_92 : DC cb41 92 (.iconst 1) 1 := by decide +kernel
theorem d41_93 : DC cb41 93 (.ireturn) 1 := by decide +kernel
theorem ef_41_30 (m : MethodId) (x0 : Addr) (x1 : Int32) (x2 : Addr) (x3 : Addr) : entryFrame m #[(.ref x0), (.int x1), (.ref x2), (.ref x3)] 5 = mkF m 0 #[.val (.ref x0), .val (.int x1), .val (.ref x2), .val (.ref x3), .unset] [] := by first | (simp [entryFrame, mkF, argsToLocals, Value.category]; done) | rfl
theorem rm41_0 (l : Launch) (Z : State) (a0 : Array Value) (hw : HW a0 Z) (w1 : Addr) (p2 : Int32) (a3 a4 w5 : Addr) (k6 : ClassId) (h0 : Heap) (n0 : Nat) (OL0 : Old Z n0 h0) (pr1 : (p2 &&& (3 : Int32)) = (0 : Int32)) (pr2 : Fld Z Z.heap w1 s51 s33 s21 (.ref w5)) (pr3 : Arv Z Z.heap w5 k6 (.object s37) (0 : Int32) [] .null) (pr4 : Exa Z Z.heap w1 s51) :
    MF l Z mn41 method_4_code 5 (some .boolean) ⟨1, 0, 0, 12⟩ #[(.ref w1), (.int p2), (.ref a3), (.ref a4)] h0 (QR n0 h0 (some (.int (1 : Int32)))) := by
  refine own_start (plainFor_of_name pn_7) (fun m => (ef_41_30 m w1 p2 a3 a4)) ?_
  intro p e s m below meth c s₁ hZ hx hby hml hown hnm hret X0 e0
  have N0 := Fr.nil n0
  obtain ⟨_, T7, L7, X7, hQ7, st7⟩ := own_cI X0 hx hZ hown hml (cw31 hw) (rm42_0 l Z a0 hw w1 w5 k6 h0 n0 OL0 pr2 pr3) e0 (pr4.ext OL0.2) 6 #[rv w1, iv p2, rv a3, rv a4, iv (0 : Int32)] [] [] 0 rfl (hb hby d41_6) (by decide)
  obtain ⟨rfl, Nq7, ec7⟩ := hQ7
  have N7 := Fr.app N0 Nq7
  refine ⟨some (.int (1 : Int32)), _, _, _, _, _, X7, ec7, by decide, nofun, fun fs hr => ?_, ?_⟩
  · refine XS.iloadN X0.here hx rfl (hb hby d41_0) rfl ?_
    show SS p e below s₁ m 1 #[rv w1, iv p2, rv a3, rv a4, uu] [(.int p2)] _
    refine XS.iconst X0.here hx rfl (hb hby d41_1) ?_
    refine XS.iand X0.here hx rfl (hb hby d41_2) rfl ?_
    show SS p e below s₁ m 3 #[rv w1, iv p2, rv a3, rv a4, uu] [(.int (p2 &&& (3 : Int32)))] _
    rw [pr1]
    refine XS.istore X0.here hx rfl (hb hby d41_3) rfl (l' := #[rv w1, iv p2, rv a3, rv a4, iv (0 : Int32)]) rfl ?_
    refine XS.aloadN X0.here hx rfl (hb hby d41_5) rfl rfl ?_
    refine st7 _ ?_
    refine XS.iload X7.here hx rfl (hb hby d41_11) rfl ?_
    refine XS.icmpYes X7.here hx rfl (pc0 := 13) (pc' := 18) rfl (hb hby d41_13) rfl (teq (rfl : (0 : Int32) = (0 : Int32))).1 (by decide) (by decide) ?_
    refine XS.iload X7.here hx rfl (hb hby d41_18) rfl ?_
    refine XS.ifYes X7.here hx rfl (pc0 := 20) (pc' := 42) rfl (hb hby d41_20) rfl ((if0 _ _).trans (flt (by decide : ¬ ((0 : Int32) < (0 : Int32)))).2.2.2) (by decide) (by decide) ?_
    refine XS.iload X7.here hx rfl (hb hby d41_42) rfl ?_
    show SS p e below T7 m 44 #[rv w1, iv p2, rv a3, rv a4, iv (0 : Int32)] [(.int (0 : Int32))] _
    refine XS.iconst X7.here hx rfl (hb hby d41_44) ?_
    refine XS.icmpYes X7.here hx rfl (pc0 := 45) (pc' := 67) rfl (hb hby d41_45) rfl (flt (by decide : ¬ ((1 : Int32) < (0 : Int32)))).2.2.2 (by decide) (by decide) ?_
    refine XS.iload X7.here hx rfl (hb hby d41_67) rfl ?_
    refine XS.iconst X7.here hx rfl (hb hby d41_69) ?_
    refine XS.icmpYes X7.here hx rfl (pc0 := 70) (pc' := 92) rfl (hb hby d41_70) rfl (flt (by decide : ¬ ((2 : Int32) < (0 : Int32)))).2.2.2 (by decide) (by decide) ?_
    refine XS.iconst X7.here hx rfl (hb hby d41_92) ?_
    show SS p e below T7 m 93 #[rv w1, iv p2, rv a3, rv a4, iv (0 : Int32)] [(.int (1 : Int32))] _
    exact retN X7 hx (t := .boolean) hret (by simp) (hb hby d41_93) hr
  · exact ⟨rfl, N7, rfl⟩
theorem pd_22 : parseMethodDescriptor "(Ljava/util/List;ILcom/example/tarcal/tarcal/schedules/DatedPrice;Lcom/example/tarcal/tarcal/schedules/DatedPrice;)Z" = some ⟨[(.object "java/util/List"), .int, (.object "com/example/tarcal/tarcal/schedules/DatedPrice"), (.object "com/example/tarcal/tarcal/schedules/DatedPrice")], some .boolean⟩ := by decide +kernel
theorem cw32 {a0 Z} (hw : HW a0 Z) : CS a0 Z s28 118 mn41 4 (.code mn41 method_4_code 5 (some .boolean)) :=
  ⟨wx hw 292 rfl, wx hw 293 rfl, wx hw 294 rfl, wx hw 81 rfl, by decide, _, _, pd_22, rfl⟩
theorem d9_17 : DC cb9 17 (.aload 4) 2 := by decide +kernel
theorem d9_19 : DC cb9 19 (.iload_n 0) 1 := by decide +kernel
theorem d9_20 : DC cb9 20 (.iconst 0) 1 := by decide +kernel
theorem d9_21 : DC cb9 21 (.aload_n 1) 1 := by decide +kernel
theorem d9_22 : DC cb9 22 (.aload_n 2) 1 := by decide +kernel
theorem d9_23 : DC cb9 23 (.invokestatic 10) 3 := by decide +kernel
theorem d13_0 : DC cb13 0 (.iload_n 0) 1 := by decide +kernel
theorem d13_1 : DC cb13 1 (.iconst 2) 1 := by decide +kernel
theorem d13_2 : DC cb13 2 (.iload_n 1) 1 := by decide +kernel
theorem d13_3 : DC cb13 3 (.iadd) 1 := by decide +kernel
theorem d13_4 : DC cb13 4 (.iushr) 1 := by decide +kernel
theorem d13_5 : DC cb13 5 (.iconst 1) 1 := by decide +kernel
theorem d13_6 : DC cb13 6 (.iand) 1 := by decide +kernel
theorem d13_7 : DC cb13 7 (.ifCond .ne 7) 3 := by decide +kernel
theorem d13_14 : DC cb13 14 (.aload_n 3) 1 := by decide +kernel
theorem d13_15 : DC cb13 15 (.areturn) 1 := by decide +kernel
theorem ef_13_31 (m : MethodId) (x0 : Int32) (x2 : Addr) (x3 : Addr) : entryFrame m #[(.int x0), (.int (0 : Int32)), (.ref x2), (.ref x3)] 4 = mkF m 0 #[.val (.int x0), .val (.int (0 : Int32)), .val (.ref x2), .val (.ref x3)] [] := by first | (simp [entryFrame, mkF, argsToLocals, Value.category]; done) | rfl
theorem rm13_0 (l : Launch) (Z : State) (a0 : Array Value) (hw : HW a0 Z) (p1 : Int32) (a2 a3 : Addr) (h0 : Heap) (n0 : Nat) (OL0 : Old Z n0 h0) (pr1 : ¬ ((((p1.toUInt32 >>> ((2 : Int32) &&& 31).toUInt32).toInt32) &&& (1 : Int32)) = (0 : Int32))) :
    MF l Z mn13 method_2_code 4 (some (.object s29)) ⟨0, 0, 0, 0⟩ #[(.int p1), (.int (0 : Int32)), (.ref a2), (.ref a3)] h0 (QR n0 h0 (some (.ref a3))) := by
  refine own_start (plainFor_of_name pn_7) (fun m => (ef_13_31 m p1 a2 a3)) ?_
  intro p e s m below meth c s₁ hZ hx hby hml hown hnm hret X0 e0
  have N0 := Fr.nil n0
  refine ⟨some (.ref a3), _, _, _, _, _, X0, e0, by decide, nofun, fun fs hr => ?_, ?_⟩
  · refine XS.iloadN X0.here hx rfl (hb hby d13_0) rfl ?_
    show SS p e below s₁ m 1 #[iv p1, iv (0 : Int32), rv a2, rv a3] [(.int p1)] _
    refine XS.iconst X0.here hx rfl (hb hby d13_1) ?_
    refine XS.iloadN X0.here hx rfl (hb hby d13_2) rfl ?_
    refine XS.iadd X0.here hx rfl (hb hby d13_3) rfl ?_
    refine XS.iushr X0.here hx rfl (hb hby d13_4) rfl ?_
    refine XS.iconst X0.here hx rfl (hb hby d13_5) ?_
    refine XS.iand X0.here hx rfl (hb hby d13_6) rfl ?_
    refine XS.ifYes X0.here hx rfl (pc0 := 7) (pc' := 14) rfl (hb hby d13_7) rfl ((if0 _ _).trans (feq pr1).2) (by decide) (by decide) ?_
    refine XS.aloadN X0.here hx rfl (hb hby d13_14) rfl rfl ?_
    show SS p e below s₁ m 15 #[iv p1, iv (0 : Int32), rv a2, rv a3] [(.ref a3)] _
    exact own_retR X0 hx hret rfl rfl rfl (hb hby d13_15) hr
  · exact ⟨rfl, N0, rfl⟩
theorem d13_10 : DC cb13 10 (.aload_n 2) 1 := by decide +kernel
theorem d13_11 : DC cb13 11 (.goto 4) 3 := by decide +kernel
theorem rm13_1 (l : Launch) (Z : State) (a0 : Array Value) (hw : HW a0 Z) (p1 : Int32) (a2 a3 : Addr) (h0 : Heap) (n0 : Nat) (OL0 : Old Z n0 h0) (pr1 : (((p1.toUInt32 >>> ((2 : Int32) &&& 31).toUInt32).toInt32) &&& (1 : Int32)) = (0 : Int32)) :
    MF l Z mn13 method_2_code 4 (some (.object s29)) ⟨0, 0, 0, 0⟩ #[(.int p1), (.int (0 : Int32)), (.ref a2), (.ref a3)] h0 (QR n0 h0 (some (.ref a2))) := by
  refine own_start (plainFor_of_name pn_7) (fun m => (ef_13_31 m p1 a2 a3)) ?_
  intro p e s m below meth c s₁ hZ hx hby hml hown hnm hret X0 e0
  have N0 := Fr.nil n0
  refine ⟨some (.ref a2), _, _, _, _, _, X0, e0, by decide, nofun, fun fs hr => ?_, ?_⟩
  · refine XS.iloadN X0.here hx rfl (hb hby d13_0) rfl ?_
    show SS p e below s₁ m 1 #[iv p1, iv (0 : Int32), rv a2, rv a3] [(.int p1)] _
    refine XS.iconst X0.here hx rfl (hb hby d13_1) ?_
    refine XS.iloadN X0.here hx rfl (hb hby d13_2) rfl ?_
    refine XS.iadd X0.here hx rfl (hb hby d13_3) rfl ?_
    refine XS.iushr X0.here hx rfl (hb hby d13_4) rfl ?_
    refine XS.iconst X0.here hx rfl (hb hby d13_5) ?_
    refine XS.iand X0.here hx rfl (hb hby d13_6) rfl ?_
    refine XS.ifNo X0.here hx rfl (hb hby d13_7) rfl ((if0 _ _).trans (teq pr1).2) ?_
    refine XS.aloadN X0.here hx rfl (hb hby d13_10) rfl rfl ?_
    refine XS.goto X0.here hx rfl (pc0 := 11) (pc' := 15) rfl (hb hby d13_11) (by decide) (by decide) ?_
    show SS p e below s₁ m 15 #[iv p1, iv (0 : Int32), rv a2, rv a3] [(.ref a2)] _
    exact own_retR X0 hx hret rfl rfl rfl (hb hby d13_15) hr
  · exact ⟨rfl, N0, rfl⟩
theorem mg_pick0 (l : Launch) (Z : State) (a0 : Array Value) (hw : HW a0 Z) (p1 : Int32) (a2 a3 : Addr) (ax : Addr) (h0 : Heap) (n0 : Nat) (OL0 : Old Z n0 h0) (hx : (if (((p1.toUInt32 >>> ((2 : Int32) &&& 31).toUInt32).toInt32) &&& (1 : Int32)) = (0 : Int32) then a2 else a3) = ax) :
    MF l Z mn13 method_2_code 4 (some (.object s29)) ⟨0, 0, 0, 0⟩ #[(.int p1), (.int (0 : Int32)), (.ref a2), (.ref a3)] h0 (QR n0 h0 (some (.ref ax))) := by
  subst hx
  by_cases hc : (((p1.toUInt32 >>> ((2 : Int32) &&& 31).toUInt32).toInt32) &&& (1 : Int32)) = (0 : Int32)
  · rw [if_pos hc]
    exact rm13_1 l Z a0 hw p1 a2 a3 h0 n0 OL0 hc
  · rw [if_neg hc]
    exact rm13_0 l Z a0 hw p1 a2 a3 h0 n0 OL0 hc
theorem pd_23 : parseMethodDescriptor "(IILcom/example/tarcal/tarcal/schedules/DatedPrice;Lcom/example/tarcal/tarcal/schedules/DatedPrice;)Lcom/example/tarcal/tarcal/schedules/DatedPrice;" = some ⟨[.int, .int, (.object "com/example/tarcal/tarcal/schedules/DatedPrice"), (.object "com/example/tarcal/tarcal/schedules/DatedPrice")], some (.object "com/example/tarcal/tarcal/schedules/DatedPrice")⟩ := by decide +kernel
theorem cw33 {a0 Z} (hw : HW a0 Z) : CS a0 Z s28 10 mn13 4 (.code mn13 method_2_code 4 (some (.object s29))) :=
  ⟨wx hw 107 rfl, wx hw 108 rfl, wx hw 109 rfl, wx hw 81 rfl, by decide, _, _, pd_23, rfl⟩
theorem d9_26 : DC cb9 26 (.invokevirtual 16) 3 := by decide +kernel
theorem d9_29 : DC cb9 29 (.pop) 1 := by decide +kernel
theorem rm9_1 (l : Launch) (Z : State) (a0 : Array Value) (hw : HW a0 Z) (p1 : Int32) (a2 a3 w5 a7 : Addr) (k9 : ClassId) (h0 : Heap) (n0 : Nat) (OL0 : Old Z n0 h0) (pr1 : (p1 &&& (3 : Int32)) = (1 : Int32)) (pr2 : Sta Z Z.heap s44 s2 s21 (.ref w5)) (pr3 : (if (((p1.toUInt32 >>> ((2 : Int32) &&& 31).toUInt32).toInt32) &&& (1 : Int32)) = (0 : Int32) then a2 else a3) = a7) (pr4 : Arv Z Z.heap w5 k9 (.object s37) (0 : Int32) [] .null) (pr5 : Exa Z h0 a7 s29) :
    MF l Z mn9 method_3_code 5 (some (.object s44)) ⟨5, 2, 13, 69⟩ #[(.int p1), (.ref a2), (.ref a3)] h0 (fun v h L => ∃ b4 : Addr, ∃ b10_0 : Addr, ∃ kx10_0 : ClassId, v = some (.ref b4) ∧ Fr n0 L ∧ Keep h0 h [] ∧ h0.size ≤ b4 ∧ h0.size ≤ b10_0 ∧ b4 ≠ b10_0 ∧ Exa Z h b4 s44 ∧ Fld Z h b4 s43 s57 "I" (.int (1 : Int32)) ∧ Fld Z h b4 s44 s32 s21 (.ref b10_0) ∧ Fld Z h b4 s44 "size" "I" (.int (1 : Int32)) ∧ Arv Z h b10_0 kx10_0 (.object s37) (10 : Int32) [(.ref a7), .null, .null, .null, .null, .null, .null, .null, .null, .null] .null ∧ Ovr Z kx10_0 s37 ∧ Exa Z h b10_0 s21) := by
  refine own_start (plainFor_of_name pn_7) (fun m => (ef_9_10 m p1 a2 a3)) ?_
  intro p e s m below meth c s₁ hZ hx hby hml hown hnm hret X0 e0
  have N0 := Fr.nil n0
  obtain ⟨T4, h4, X4, e4, E4, A4, D4, -, st4⟩ := newO X0 hx hZ hown (wd83 hw) (wd84 hw) (wd85 hw) e0 (g := (mkF m 4 #[iv p1, rv a2, rv a3, iv (1 : Int32), uu] [])) rfl (hb hby d9_4) (by decide) (by decide)
  obtain ⟨b4, g4⟩ : ∃ z, z = h0.size := ⟨_, rfl⟩
  rw [← g4] at A4 D4 st4
  have g_b4 : n0 ≤ b4 := (Nat.le_trans (Nat.le_trans (Nat.le_of_eq OL0.1.symm) OL0.2.1) (Nat.le_of_eq g4.symm))
  have sz_b4 : h0.size ≤ b4 := (Nat.le_trans (Keep.refl h0 []).1 (Nat.le_of_eq g4.symm))
  have KK4 : Keep h0 h4 [] := (Keep.refl h0 []).ext E4
  have OL4 := OL0.ext E4
  have F_modCount_b4 : Fld Z h4 b4 s43 s57 "I" (.int (0 : Int32)) := D4 (Or.inl (wd103 hw)) (ty := .int) (by decide)
  have F_elementData_b4 : Fld Z h4 b4 s44 s32 s21 .null := D4 (Or.inl (wd106 hw)) (ty := (.array (.object s37))) (by decide)
  have F_size_b4 : Fld Z h4 b4 s44 "size" "I" (.int (0 : Int32)) := D4 (Or.inl (wd118 hw)) (ty := .int) (by decide)
  obtain ⟨_, T6, L6, X6, hQ6, st6⟩ := own_cN X4 hx hZ hown hml (cw9 hw) (rm10_0 l Z a0 hw b4 w5 h4 n0 OL4 A4 F_modCount_b4 g_b4 F_elementData_b4 F_size_b4 pr2) e4 b4 8 #[iv p1, rv a2, rv a3, iv (1 : Int32), uu] [] [(.ref b4)] 1 rfl (hb hby d9_8) (by decide)
  obtain ⟨rfl, Nq6, K6, u6_0, u6_1, u6_2⟩ := hQ6
  have KK6 : Keep h0 T6.heap [] := KK4.trans K6 (allS (Or.inr sz_b4) all0)
  have OL6 := OL4.keep K6 (allS g_b4 all0)
  have N6 := Fr.app N0 Nq6
  obtain ⟨_, T8, L8, X8, hQ8, st8⟩ := own_cS X6 hx hZ hown hml (cw33 hw) (mg_pick0 l Z a0 hw p1 a2 a3 a7 T6.heap n0 OL6 pr3) rfl 23 #[iv p1, rv a2, rv a3, iv (1 : Int32), rv b4] [(.int p1), (.int (0 : Int32)), (.ref a2), (.ref a3)] [(.ref b4)] 1 rfl (hb hby d9_23) (by decide)
  obtain ⟨rfl, Nq8, ec8⟩ := hQ8
  have N8 := Fr.app N6 Nq8
  have fc11 := (A4.keep K6)
  have fc12 := ((pr5.ext E4).keep K6)
  obtain ⟨_, T10, L10, X10, hQ10, st10⟩ := own_cV X8 hx hZ hown hml (cw23 hw) (rm14_0 l Z a0 hw b4 a7 w5 k9 T6.heap n0 OL6 u6_0 fc11 g_b4 u6_1 u6_2 pr4 pr2 fc12) ec8 fc11 26 #[iv p1, rv a2, rv a3, iv (1 : Int32), rv b4] [(.ref a7)] [] 0 rfl (hb hby d9_26) (by decide)
  obtain ⟨b10_0, kx10_0, rfl, Nq10, K10, u10_0, u10_1, u10_2, u10_3, u10_4, u10_5, u10_6⟩ := hQ10
  have KK10 : Keep h0 T10.heap [] := KK6.trans K10 (allS (Or.inr sz_b4) all0)
  have sz_b10_0 : h0.size ≤ b10_0 := Nat.le_trans KK6.1 u10_0
  have N10 := Fr.app N8 Nq10
  have nz13 := nl u6_2.lt u10_0
  have fc14 := (fc11.keep K10)
  refine ⟨some (.ref b4), _, _, _, _, _, X10, rfl, by decide, nofun, fun fs hr => ?_, ?_⟩
  · refine XS.iloadN X0.here hx rfl (hb hby d9_0) rfl ?_
    show SS p e below s₁ m 1 #[iv p1, rv a2, rv a3, uu, uu] [(.int p1)] _
    refine XS.iconst X0.here hx rfl (hb hby d9_1) ?_
    refine XS.iand X0.here hx rfl (hb hby d9_2) rfl ?_
    show SS p e below s₁ m 3 #[iv p1, rv a2, rv a3, uu, uu] [(.int (p1 &&& (3 : Int32)))] _
    rw [pr1]
    refine XS.istoreN X0.here hx rfl (hb hby d9_3) rfl (l' := #[iv p1, rv a2, rv a3, iv (1 : Int32), uu]) rfl ?_
    refine st4 _ ?_
    refine XS.dup X4.here hx rfl (hb hby d9_7) rfl rfl ?_
    refine st6 _ ?_
    refine XS.astore X6.here hx rfl (hb hby d9_11) rfl rfl (l' := #[iv p1, rv a2, rv a3, iv (1 : Int32), rv b4]) rfl ?_
    refine XS.iloadN X6.here hx rfl (hb hby d9_13) rfl ?_
    refine XS.ifNo X6.here hx rfl (hb hby d9_14) rfl ((if0 _ _).trans (tlt (by decide : (0 : Int32) < (1 : Int32))).2.2.2) ?_
    refine XS.aload X6.here hx rfl (hb hby d9_17) rfl rfl ?_
    show SS p e below T6 m 19 #[iv p1, rv a2, rv a3, iv (1 : Int32), rv b4] [(.ref b4)] _
    refine XS.iloadN X6.here hx rfl (hb hby d9_19) rfl ?_
    refine XS.iconst X6.here hx rfl (hb hby d9_20) ?_
    refine XS.aloadN X6.here hx rfl (hb hby d9_21) rfl rfl ?_
    refine XS.aloadN X6.here hx rfl (hb hby d9_22) rfl rfl ?_
    refine st8 _ ?_
    refine st10 _ ?_
    refine XS.pop X10.here hx rfl (hb hby d9_29) rfl rfl ?_
    refine XS.iloadN X10.here hx rfl (hb hby d9_30) rfl ?_
    refine XS.iconst X10.here hx rfl (hb hby d9_31) ?_
    refine XS.icmpYes X10.here hx rfl (pc0 := 32) (pc' := 48) rfl (hb hby d9_32) rfl (flt (by decide : ¬ ((1 : Int32) < (1 : Int32)))).2.2.2 (by decide) (by decide) ?_
    show SS p e below T10 m 48 #[iv p1, rv a2, rv a3, iv (1 : Int32), rv b4] [] _
    refine XS.iloadN X10.here hx rfl (hb hby d9_48) rfl ?_
    refine XS.iconst X10.here hx rfl (hb hby d9_49) ?_
    refine XS.icmpYes X10.here hx rfl (pc0 := 50) (pc' := 66) rfl (hb hby d9_50) rfl (flt (by decide : ¬ ((2 : Int32) < (1 : Int32)))).2.2.2 (by decide) (by decide) ?_
    refine XS.aload X10.here hx rfl (hb hby d9_66) rfl rfl ?_
    show SS p e below T10 m 68 #[iv p1, rv a2, rv a3, iv (1 : Int32), rv b4] [(.ref b4)] _
    exact own_retR X10 hx hret rfl rfl rfl (hb hby d9_68) hr
  · exact ⟨b4, b10_0, kx10_0, rfl, N10, KK10, sz_b4, sz_b10_0, nz13, fc14, u10_1, u10_2, u10_3, u10_4, u10_5, u10_6⟩
theorem d22_11 : DC cb22 11 (.iconst 0) 1 := by decide +kernel
theorem rm22_1 (l : Launch) (Z : State) (a0 : Array Value) (hw : HW a0 Z) (a1 : Addr) (h0 : Heap) (n0 : Nat) (OL0 : Old Z n0 h0) (pr1 : Fld Z h0 a1 s44 "size" "I" (.int (1 : Int32))) :
    MF l Z mn22 jdk_38_method_9_code 1 (some .boolean) ⟨0, 0, 0, 0⟩ #[(.ref a1)] h0 (QR n0 h0 (some (.int (0 : Int32)))) := by
  refine own_start (plainFor_of_name pn_6) (fun m => (ef_22_11 m a1)) ?_
  intro p e s m below meth c s₁ hZ hx hby hml hown hnm hret X0 e0
  have N0 := Fr.nil n0
  obtain ⟨T2, X2, e2, st2⟩ := gF X0 hx hZ hown (wd117 hw) Via.refl e0 pr1 1 #[rv a1] [] (hb hby d22_1)
  refine ⟨some (.int (0 : Int32)), _, _, _, _, _, X2, e2, by decide, nofun, fun fs hr => ?_, ?_⟩
  · refine XS.aloadN X0.here hx rfl (hb hby d22_0) rfl rfl ?_
    show SS p e below s₁ m 1 #[rv a1] [(.ref a1)] _
    refine st2 _ ?_
    refine XS.ifYes X2.here hx rfl (pc0 := 4) (pc' := 11) rfl (hb hby d22_4) rfl ((if0 _ _).trans (feq (by decide : ¬ ((1 : Int32) = (0 : Int32)))).2) (by decide) (by decide) ?_
    refine XS.iconst X2.here hx rfl (hb hby d22_11) ?_
    show SS p e below T2 m 12 #[rv a1] [(.int (0 : Int32))] _
    exact retN X2 hx (t := .boolean) hret (by simp) (hb hby d22_12) hr
  · exact ⟨rfl, N0, rfl⟩
theorem d21_44 : DC cb21 44 (.aload_n 0) 1 := by decide +kernel
theorem d21_45 : DC cb21 45 (.invokeinterface 30 1) 5 := by decide +kernel
theorem d23_0 : DC cb23 0 (.aload_n 0) 1 := by decide +kernel
theorem d23_1 : DC cb23 1 (.getfield 9) 3 := by decide +kernel
theorem d23_4 : DC cb23 4 (.aload_n 0) 1 := by decide +kernel
theorem d23_5 : DC cb23 5 (.getfield 48) 3 := by decide +kernel
theorem d23_8 : DC cb23 8 (.invokestatic 66) 3 := by decide +kernel
theorem d24_0 : DC cb24 0 (.aload_n 0) 1 := by decide +kernel
theorem d24_1 : DC cb24 1 (.iload_n 1) 1 := by decide +kernel
theorem d24_2 : DC cb24 2 (.aload_n 0) 1 := by decide +kernel
theorem d24_3 : DC cb24 3 (.invokevirtual 86) 3 := by decide +kernel
def MirM (Z : State) (C : String) (a : Addr) : Prop := ∃ (c : ClassId) (k : Class), Z.vm.findClass C = some c ∧ Z.vm.classes[c]? = some k ∧ k.mirror = some a
theorem own_gcls {p : Program} {l : Launch} {e : Env} {R : Room} {s : State} {m : MethodId} {args : Array Value} {below : List Frame} {meth : Method} {c : Code} {T : State} {locs : List Loc} {cells slots : Nat} {Z : State} {a0 : Array Value} {h : Heap} {a mr : Addr} {own C : String} {index : Nat}
    (X : Stand p l e R s m args below meth c T locs cells slots) (hx : p.tables.exec = Jvm.exec) (hZ : Z.Warmed39 s.vm) (hown : s.vm.findClass own = some m.cls)
    (w1 : (Jvm.Cond.methodLink own index ⟨"java/lang/Object", "getClass", "()Ljava/lang/Class;"⟩).before a0 Z = true) (w2 : (Jvm.Cond.declares ⟨"java/lang/Object", "getClass", "()Ljava/lang/Class;"⟩).before a0 Z = true) (w3 : (Jvm.Cond.noSuperclass "java/lang/Object").before a0 Z = true) (w4 : (Jvm.Cond.selects C ⟨"java/lang/Object", "getClass", "()Ljava/lang/Class;"⟩ ⟨"java/lang/Object", "getClass", "()Ljava/lang/Class;"⟩).before a0 Z = true)
    (w5 : (Jvm.Cond.instanceMethod ⟨"java/lang/Object", "getClass", "()Ljava/lang/Class;"⟩).before a0 Z = true) (w6 : (Jvm.Cond.native ⟨"java/lang/Object", "getClass", "()Ljava/lang/Class;"⟩).before a0 Z = true) (eT : T.heap = h) (E : Exa Z h a C) (M : MirM Z C mr)
    {g : JFrame} (hg : g.method = m) (hsize : g.locals.size = c.maxLocals) {rest : List Value} (hs : g.stack = .ref a :: rest) (hd : decode c.code g.pc = .ok (.invokevirtual index, 3)) (hf : 1 ≤ R.frames) {W : Nat} (hW : 2 * g.monitorRoom + (rest.map fun v => v.category).sum ≤ W) (hl : W + 14 ≤ R.locals) :
    ∃ T', Stand p l e R s m args below meth c T' locs cells slots ∧ T'.heap = h ∧ ∀ target, Steps p.tables e below (T'.setTop { g with pc := g.pc + 3, stack := .ref mr :: rest }) target → Steps p.tables e below (T.setTop g) target := by
  obtain ⟨ca, ka, f1, f2, f3⟩ := M
  obtain ⟨cB, kB, i1, -, i3⟩ := isOf hZ eT E
  have f1' : s.vm.findClass C = some ca := by rw [hZ.alike.findClass]; exact f1
  obtain rfl : cB = ca := Option.some.inj (i1.symm.trans f1')
  obtain ⟨kb, g1, g2⟩ := hZ.alike.2.2 _ _ f2
  have gm : kb.mirror = some mr := by rw [g2]; exact f3
  have hn : nativeFrameWords "java/lang/Object" "getClass" 1 + 11 = 14 := by decide
  obtain ⟨vm', X', st⟩ := X.getClassOf hx hown (mvT hZ w1) (mvT hZ w2) (nf_top (args := #[]) (mvT hZ w3)) (mvT hZ w4) (mvT hZ w5) (mvT hZ w6) f1' i3 g1 gm hg hsize hs hd hf (by rw [hn]; omega)
  exact ⟨_, X', eT, st⟩
theorem own_ldcM {p : Program} {l : Launch} {e : Env} {R : Room} {s : State} {m : MethodId} {args : Array Value} {below : List Frame} {meth : Method} {c : Code} {T : State} {locs : List Loc} {cells slots : Nat} {Z : State} {a0 : Array Value} {h : Heap} {mr : Addr} {own C : String} {index : Nat}
    (X : Stand p l e R s m args below meth c T locs cells slots) (hx : p.tables.exec = Jvm.exec) (hZ : Z.Warmed39 s.vm) (hown : s.vm.findClass own = some m.cls) (w : (Jvm.Cond.classLink own index C).before a0 Z = true) (eT : T.heap = h) (M : MirM Z C mr)
    {g : JFrame} (hg : g.method = m) (hd : decode c.code g.pc = .ok (.ldc index, 2)) :
    ∃ T', Stand p l e R s m args below meth c T' locs cells slots ∧ T'.heap = h ∧ ∀ target, Steps p.tables e below (T'.setTop { g with pc := g.pc + 2, stack := .ref mr :: g.stack }) target → Steps p.tables e below (T.setTop g) target := by
  obtain ⟨ca, ka, f1, f2, f3⟩ := M
  have f1' : s.vm.findClass C = some ca := by rw [hZ.alike.findClass]; exact f1
  obtain ⟨kb, g1, g2⟩ := hZ.alike.2.2 _ _ f2
  have gm : kb.mirror = some mr := by rw [g2]; exact f3
  obtain ⟨vm', X', st⟩ := X.ldcMirror hx hown (mvT hZ w) (a := mr) (by simp [Term.eval, f1', g1, gm]) hg hd
  exact ⟨_, X', eT, st⟩
theorem d24_6 : DC cb24 6 (.invokestatic 300) 3 := by decide +kernel
theorem d25_0 : DC cb25 0 (.aload_n 2) 1 := by decide +kernel
theorem d25_1 : DC cb25 1 (.ldc 110) 2 := by decide +kernel
theorem d25_3 : DC cb25 3 (.if_acmp .ne 10) 3 := by decide +kernel
theorem d25_6 : DC cb25 6 (.iload_n 1) 1 := by decide +kernel
theorem d25_7 : DC cb25 7 (.anewarray 2) 3 := by decide +kernel
theorem d25_10 : DC cb25 10 (.goto 14) 3 := by decide +kernel
theorem d25_24 : DC cb25 24 (.astore_n 3) 1 := by decide +kernel
theorem d25_25 : DC cb25 25 (.aload_n 0) 1 := by decide +kernel
theorem d25_26 : DC cb25 26 (.iconst 0) 1 := by decide +kernel
theorem d25_27 : DC cb25 27 (.aload_n 3) 1 := by decide +kernel
theorem d25_28 : DC cb25 28 (.iconst 0) 1 := by decide +kernel
theorem d25_29 : DC cb25 29 (.aload_n 0) 1 := by decide +kernel
theorem d25_30 : DC cb25 30 (.arraylength) 1 := by decide +kernel
theorem d25_31 : DC cb25 31 (.iload_n 1) 1 := by decide +kernel
theorem d25_32 : DC cb25 32 (.invokestatic 304) 3 := by decide +kernel
theorem d26_0 : DC cb26 0 (.iload_n 0) 1 := by decide +kernel
theorem d26_1 : DC cb26 1 (.iload_n 1) 1 := by decide +kernel
theorem d26_2 : DC cb26 2 (.if_icmp .gt 7) 3 := by decide +kernel
theorem d26_9 : DC cb26 9 (.iload_n 1) 1 := by decide +kernel
theorem d26_10 : DC cb26 10 (.ireturn) 1 := by decide +kernel
theorem ef_26_32 (m : MethodId)  : entryFrame m #[(.int (10 : Int32)), (.int (1 : Int32))] 2 = mkF m 0 #[.val (.int (10 : Int32)), .val (.int (1 : Int32))] [] := by first | (simp [entryFrame, mkF, argsToLocals, Value.category]; done) | rfl
theorem rm26_0 (l : Launch) (Z : State) (a0 : Array Value) (hw : HW a0 Z)  (h0 : Heap) (n0 : Nat) (OL0 : Old Z n0 h0)  :
    MF l Z mn26 jdk_29_method_69_code 2 (some .int) ⟨0, 0, 0, 0⟩ #[(.int (10 : Int32)), (.int (1 : Int32))] h0 (QR n0 h0 (some (.int (1 : Int32)))) := by
  refine own_start (Jvm.Free.JP.mathPlain rfl (by decide +kernel)) (fun m => (ef_26_32 m )) ?_
  intro p e s m below meth c s₁ hZ hx hby hml hown hnm hret X0 e0
  have N0 := Fr.nil n0
  refine ⟨some (.int (1 : Int32)), _, _, _, _, _, X0, e0, by decide, nofun, fun fs hr => ?_, ?_⟩
  · refine XS.iloadN X0.here hx rfl (hb hby d26_0) rfl ?_
    show SS p e below s₁ m 1 #[iv (10 : Int32), iv (1 : Int32)] [(.int (10 : Int32))] _
    refine XS.iloadN X0.here hx rfl (hb hby d26_1) rfl ?_
    refine XS.icmpYes X0.here hx rfl (pc0 := 2) (pc' := 9) rfl (hb hby d26_2) rfl (tlt (by decide : (1 : Int32) < (10 : Int32))).2.2.1 (by decide) (by decide) ?_
    refine XS.iloadN X0.here hx rfl (hb hby d26_9) rfl ?_
    show SS p e below s₁ m 10 #[iv (10 : Int32), iv (1 : Int32)] [(.int (1 : Int32))] _
    exact retI X0 hx hret (hb hby d26_10) hr
  · exact ⟨rfl, N0, rfl⟩
theorem cw34 {a0 Z} (hw : HW a0 Z) : CS a0 Z s45 304 mn26 2 (.code mn26 jdk_29_method_69_code 2 (some .int)) :=
  ⟨wx hw 194 rfl, wx hw 195 rfl, wx hw 196 rfl, wx hw 136 rfl, by decide, _, _, pd_13, rfl⟩
theorem d25_35 : DC cb25 35 (.invokestatic 150) 3 := by decide +kernel
theorem d25_38 : DC cb25 38 (.aload_n 3) 1 := by decide +kernel
theorem d25_39 : DC cb25 39 (.areturn) 1 := by decide +kernel
theorem ef_25_33 (m : MethodId) (x0 : Addr) (x2 : Addr) : entryFrame m #[(.ref x0), (.int (1 : Int32)), (.ref x2)] 4 = mkF m 0 #[.val (.ref x0), .val (.int (1 : Int32)), .val (.ref x2), .unset] [] := by first | (simp [entryFrame, mkF, argsToLocals, Value.category]; done) | rfl
theorem pn_12 : plainName "java/util/Arrays" = true := by first | (simp [plainName, overriddenIn]; done) | decide +kernel
theorem rm25_0 (l : Launch) (Z : State) (a0 : Array Value) (hw : HW a0 Z) (a1 w2 a5 : Addr) (k6 : ClassId) (h0 : Heap) (n0 : Nat) (OL0 : Old Z n0 h0) (pr1 : MirM Z s21 w2) (pr2 : Arv Z h0 a1 k6 (.object s37) (10 : Int32) [(.ref a5), .null, .null, .null, .null, .null, .null, .null, .null, .null] .null) (pr3 : Exa Z h0 a5 s29) :
    MF l Z mn25 jdk_65_method_120_code 4 (some (.array (.object s37))) ⟨1, 1, 1, 18⟩ #[(.ref a1), (.int (1 : Int32)), (.ref w2)] h0 (fun v h L => ∃ b4 : Addr, ∃ k4 : ClassId, v = some (.ref b4) ∧ Fr n0 L ∧ Keep h0 h [] ∧ h0.size ≤ b4 ∧ Arv Z h b4 k4 (.object s37) (1 : Int32) [(.ref a5)] .null ∧ Ovr Z k4 s37 ∧ Exa Z h b4 s21) := by
  refine own_start (plainFor_of_name pn_12) (fun m => (ef_25_33 m a1 w2)) ?_
  intro p e s m below meth c s₁ hZ hx hby hml hown hnm hret X0 e0
  have N0 := Fr.nil n0
  obtain ⟨T3, X3, e3, st3⟩ := own_ldcM X0 hx hZ hown (wd192 hw) e0 pr1 (g := (mkF m 1 #[rv a1, iv (1 : Int32), rv w2, uu] [(.ref w2)])) rfl (hb hby d25_1)
  obtain ⟨T4, h4, k4, X4, e4, E4, A4, AE4, O4, st4⟩ := newRE (ad := s21) X3 hx hZ hown (wd193 hw) (wd139 hw) e3 (g := (mkF m 7 #[rv a1, iv (1 : Int32), rv w2, uu] [(.int (1 : Int32))])) rfl (hb hby d25_7) rfl (by decide) (cap := 1) (by decide) (by decide) (by decide) (by decide) (by decide)
  obtain ⟨b4, g4⟩ : ∃ z, z = h0.size := ⟨_, rfl⟩
  rw [← g4] at A4 AE4 st4
  have V4 : Arv Z h4 b4 k4 (.object s37) (1 : Int32) [.null] .null := (Arv.new A4 (by decide)).pad (pad_rep [] .null 1)
  have g_b4 : n0 ≤ b4 := (Nat.le_trans (Nat.le_trans (Nat.le_of_eq OL0.1.symm) OL0.2.1) (Nat.le_of_eq g4.symm))
  have sz_b4 : h0.size ≤ b4 := (Nat.le_trans (Keep.refl h0 []).1 (Nat.le_of_eq g4.symm))
  have KK4 : Keep h0 h4 [] := (Keep.refl h0 []).ext E4
  have OL4 := OL0.ext E4
  have fc7 := (pr2.ext E4)
  obtain ⟨cl8, Ar8, -, Sz8, Nn8, -, -⟩ := id fc7
  obtain ⟨_, T9, L9, X9, hQ9, st9⟩ := own_cS X4 hx hZ hown hml (cw34 hw) (rm26_0 l Z a0 hw  h4 n0 OL4 ) e4 32 #[rv a1, iv (1 : Int32), rv w2, rv b4] [(.int (10 : Int32)), (.int (1 : Int32))] [(.int (0 : Int32)), (.ref b4), (.int (0 : Int32)), (.ref a1)] 4 rfl (hb hby d25_32) (by decide)
  obtain ⟨rfl, Nq9, ec9⟩ := hQ9
  have N9 := Fr.app N0 Nq9
  obtain ⟨cl10, Ar10, q10, -, -, -, -⟩ := id V4
  have fc11 := (pr3.ext E4)
  obtain ⟨T12, h12, L12, X12, e12, N12, K12, VV12, st12⟩ := cpA X9 hx hZ hown (wd197 hw) (wd200 hw) (wd198 hw) (wd199 hw) ec9 (us := [(.ref a5)]) fc7 V4 (Or.inr ⟨rfl, rfl, ⟨(Sto.ofV Ar10 q10 O4 (Ins.of_exa fc11 (wd140 hw))), trivial⟩⟩) (by decide) (by decide) (by decide) (by decide) (by decide) rfl (by decide) N9 g_b4 (g := (mkF m 35 #[rv a1, iv (1 : Int32), rv w2, rv b4] [(.int (1 : Int32)), (.int (0 : Int32)), (.ref b4), (.int (0 : Int32)), (.ref a1)])) rfl (by rw [hml]; rfl) rfl (hb hby d25_35) (by decide) (W := 0) (by show 2 * 0 + _ ≤ _; exact Nat.le_of_eq rfl) (by decide)
  have V12 : Arv Z h12 b4 k4 (.object s37) (1 : Int32) [(.ref a5)] .null := VV12
  have KK12 : Keep h0 h12 [] := KK4.trans K12 (allS (Or.inr sz_b4) all0)
  have fc13 := (AE4.keep K12)
  refine ⟨some (.ref b4), _, _, _, _, _, X12, e12, by decide, nofun, fun fs hr => ?_, ?_⟩
  · refine XS.aloadN X0.here hx rfl (hb hby d25_0) rfl rfl ?_
    show SS p e below s₁ m 1 #[rv a1, iv (1 : Int32), rv w2, uu] [(.ref w2)] _
    refine st3 _ ?_
    refine Jvm.RoadKit.acmp (g := (mkF m 3 #[rv a1, iv (1 : Int32), rv w2, uu] [(.ref w2), (.ref w2)])) X3 hx rfl rfl rfl (pc0 := 3) (pc' := 6) (same := true) rfl (hb hby d25_3) rfl (decide_eq_true rfl) (by decide) (by decide) ?_
    refine XS.iloadN X3.here hx rfl (hb hby d25_6) rfl ?_
    refine st4 _ ?_
    refine XS.goto X4.here hx rfl (pc0 := 10) (pc' := 24) rfl (hb hby d25_10) (by decide) (by decide) ?_
    refine XS.astoreN X4.here hx rfl (hb hby d25_24) rfl rfl (l' := #[rv a1, iv (1 : Int32), rv w2, rv b4]) rfl ?_
    refine XS.aloadN X4.here hx rfl (hb hby d25_25) rfl rfl ?_
    refine XS.iconst X4.here hx rfl (hb hby d25_26) ?_
    refine XS.aloadN X4.here hx rfl (hb hby d25_27) rfl rfl ?_
    refine XS.iconst X4.here hx rfl (hb hby d25_28) ?_
    show SS p e below T4 m 29 #[rv a1, iv (1 : Int32), rv w2, rv b4] [(.int (0 : Int32)), (.ref b4), (.int (0 : Int32)), (.ref a1)] _
    refine XS.aloadN X4.here hx rfl (hb hby d25_29) rfl rfl ?_
    refine X4.arraylength hx (by rw [e4]; exact Ar8.1) (State.isArrayOf_alike hZ.alike Ar8.2.1) (g := (mkF m 30 #[rv a1, iv (1 : Int32), rv w2, rv b4] [(.ref a1), (.int (0 : Int32)), (.ref b4), (.int (0 : Int32)), (.ref a1)])) rfl rfl (hb hby d25_30) _ ?_
    rw [len_of Sz8 Nn8]
    refine XS.iloadN X4.here hx rfl (hb hby d25_31) rfl ?_
    refine st9 _ ?_
    refine st12 _ ?_
    refine XS.aloadN X12.here hx rfl (hb hby d25_38) rfl rfl ?_
    show SS p e below T12 m 39 #[rv a1, iv (1 : Int32), rv w2, rv b4] [(.ref b4)] _
    exact own_retR X12 hx hret rfl rfl rfl (hb hby d25_39) hr
  · exact ⟨b4, k4, rfl, N12, KK12, sz_b4, V12, O4, fc13⟩
theorem pd_24 : parseMethodDescriptor "([Ljava/lang/Object;ILjava/lang/Class;)[Ljava/lang/Object;" = some ⟨[(.array (.object "java/lang/Object")), .int, (.object "java/lang/Class")], some (.array (.object "java/lang/Object"))⟩ := by decide +kernel
theorem cw35 {a0 Z} (hw : HW a0 Z) : CS a0 Z s45 300 mn25 3 (.code mn25 jdk_65_method_120_code 4 (some (.array (.object s37)))) :=
  ⟨wx hw 189 rfl, wx hw 190 rfl, wx hw 191 rfl, wx hw 181 rfl, by decide, _, _, pd_24, rfl⟩
theorem d24_9 : DC cb24 9 (.areturn) 1 := by decide +kernel
theorem ef_24_34 (m : MethodId) (x0 : Addr) : entryFrame m #[(.ref x0), (.int (1 : Int32))] 2 = mkF m 0 #[.val (.ref x0), .val (.int (1 : Int32))] [] := by first | (simp [entryFrame, mkF, argsToLocals, Value.category]; done) | rfl
theorem rm24_0 (l : Launch) (Z : State) (a0 : Array Value) (hw : HW a0 Z) (a1 w2 a4 : Addr) (k5 : ClassId) (h0 : Heap) (n0 : Nat) (OL0 : Old Z n0 h0) (pr1 : MirM Z s21 w2) (pr2 : Exa Z h0 a1 s21) (pr3 : Arv Z h0 a1 k5 (.object s37) (10 : Int32) [(.ref a4), .null, .null, .null, .null, .null, .null, .null, .null, .null] .null) (pr4 : Exa Z h0 a4 s29) :
    MF l Z mn24 jdk_65_method_119_code 2 (some (.array (.object s37))) ⟨2, 1, 1, 33⟩ #[(.ref a1), (.int (1 : Int32))] h0 (fun v h L => ∃ b6_0 : Addr, ∃ kx6_0 : ClassId, v = some (.ref b6_0) ∧ Fr n0 L ∧ Keep h0 h [] ∧ h0.size ≤ b6_0 ∧ Arv Z h b6_0 kx6_0 (.object s37) (1 : Int32) [(.ref a4)] .null ∧ Ovr Z kx6_0 s37 ∧ Exa Z h b6_0 s21) := by
  refine own_start (plainFor_of_name pn_12) (fun m => (ef_24_34 m a1)) ?_
  intro p e s m below meth c s₁ hZ hx hby hml hown hnm hret X0 e0
  have N0 := Fr.nil n0
  obtain ⟨T3, X3, e3, st3⟩ := own_gcls X0 hx hZ hown (wd183 hw) (wd184 hw) (wd160 hw) (wd186 hw) (wd185 hw) (wd187 hw) e0 pr2 pr1 (g := (mkF m 3 #[rv a1, iv (1 : Int32)] [(.ref a1), (.int (1 : Int32)), (.ref a1)])) rfl (by rw [hml]; rfl) rfl (hb hby d24_3) (by decide) (W := 2) (by show 2 * 0 + _ ≤ _; exact Nat.le_of_eq rfl) (by decide)
  obtain ⟨_, T6, L6, X6, hQ6, st6⟩ := own_cS X3 hx hZ hown hml (cw35 hw) (rm25_0 l Z a0 hw a1 w2 a4 k5 h0 n0 OL0 pr1 pr3 pr4) e3 6 #[rv a1, iv (1 : Int32)] [(.ref a1), (.int (1 : Int32)), (.ref w2)] [] 0 rfl (hb hby d24_6) (by decide)
  obtain ⟨b6_0, kx6_0, rfl, Nq6, K6, u6_0, u6_1, u6_2, u6_3⟩ := hQ6
  have KK6 : Keep h0 T6.heap [] := (Keep.refl h0 []).trans K6 all0
  have sz_b6_0 : h0.size ≤ b6_0 := Nat.le_trans (Keep.refl h0 []).1 u6_0
  have N6 := Fr.app N0 Nq6
  refine ⟨some (.ref b6_0), _, _, _, _, _, X6, rfl, by decide, nofun, fun fs hr => ?_, ?_⟩
  · refine XS.aloadN X0.here hx rfl (hb hby d24_0) rfl rfl ?_
    show SS p e below s₁ m 1 #[rv a1, iv (1 : Int32)] [(.ref a1)] _
    refine XS.iloadN X0.here hx rfl (hb hby d24_1) rfl ?_
    refine XS.aloadN X0.here hx rfl (hb hby d24_2) rfl rfl ?_
    refine st3 _ ?_
    refine st6 _ ?_
    show SS p e below T6 m 9 #[rv a1, iv (1 : Int32)] [(.ref b6_0)] _
    exact own_retR X6 hx hret rfl rfl rfl (hb hby d24_9) hr
  · exact ⟨b6_0, kx6_0, rfl, N6, KK6, sz_b6_0, u6_1, u6_2, u6_3⟩
theorem pd_25 : parseMethodDescriptor "([Ljava/lang/Object;I)[Ljava/lang/Object;" = some ⟨[(.array (.object "java/lang/Object")), .int], some (.array (.object "java/lang/Object"))⟩ := by decide +kernel
theorem cw36 {a0 Z} (hw : HW a0 Z) : CS a0 Z s44 66 mn24 2 (.code mn24 jdk_65_method_119_code 2 (some (.array (.object s37)))) :=
  ⟨wx hw 179 rfl, wx hw 180 rfl, wx hw 182 rfl, wx hw 181 rfl, by decide, _, _, pd_25, rfl⟩
theorem d23_11 : DC cb23 11 (.areturn) 1 := by decide +kernel
theorem ef_23_35 (m : MethodId) (x0 : Addr) : entryFrame m #[(.ref x0)] 1 = mkF m 0 #[.val (.ref x0)] [] := by first | (simp [entryFrame, mkF, argsToLocals, Value.category]; done) | rfl
theorem rm23_0 (l : Launch) (Z : State) (a0 : Array Value) (hw : HW a0 Z) (a1 a2 w5 a6 : Addr) (k7 : ClassId) (h0 : Heap) (n0 : Nat) (OL0 : Old Z n0 h0) (pr1 : Fld Z h0 a1 s44 s32 s21 (.ref a2)) (pr2 : Fld Z h0 a1 s44 "size" "I" (.int (1 : Int32))) (pr3 : MirM Z s21 w5) (pr4 : Exa Z h0 a2 s21) (pr5 : Arv Z h0 a2 k7 (.object s37) (10 : Int32) [(.ref a6), .null, .null, .null, .null, .null, .null, .null, .null, .null] .null) (pr6 : Exa Z h0 a6 s29) :
    MF l Z mn23 jdk_38_method_16_code 1 (some (.array (.object s37))) ⟨3, 1, 1, 46⟩ #[(.ref a1)] h0 (fun v h L => ∃ b8_0 : Addr, ∃ kx8_0 : ClassId, v = some (.ref b8_0) ∧ Fr n0 L ∧ Keep h0 h [] ∧ h0.size ≤ b8_0 ∧ Arv Z h b8_0 kx8_0 (.object s37) (1 : Int32) [(.ref a6)] .null ∧ Ovr Z kx8_0 s37 ∧ Exa Z h b8_0 s21) := by
  refine own_start (plainFor_of_name pn_6) (fun m => (ef_23_35 m a1)) ?_
  intro p e s m below meth c s₁ hZ hx hby hml hown hnm hret X0 e0
  have N0 := Fr.nil n0
  obtain ⟨T3, X3, e3, st3⟩ := gF X0 hx hZ hown (wd105 hw) Via.refl e0 pr1 1 #[rv a1] [] (hb hby d23_1)
  obtain ⟨T4, X4, e4, st4⟩ := gF X3 hx hZ hown (wd117 hw) Via.refl e3 pr2 5 #[rv a1] [(.ref a2)] (hb hby d23_5)
  obtain ⟨_, T8, L8, X8, hQ8, st8⟩ := own_cS X4 hx hZ hown hml (cw36 hw) (rm24_0 l Z a0 hw a2 w5 a6 k7 h0 n0 OL0 pr3 pr4 pr5 pr6) e4 8 #[rv a1] [(.ref a2), (.int (1 : Int32))] [] 0 rfl (hb hby d23_8) (by decide)
  obtain ⟨b8_0, kx8_0, rfl, Nq8, K8, u8_0, u8_1, u8_2, u8_3⟩ := hQ8
  have KK8 : Keep h0 T8.heap [] := (Keep.refl h0 []).trans K8 all0
  have sz_b8_0 : h0.size ≤ b8_0 := Nat.le_trans (Keep.refl h0 []).1 u8_0
  have N8 := Fr.app N0 Nq8
  refine ⟨some (.ref b8_0), _, _, _, _, _, X8, rfl, by decide, nofun, fun fs hr => ?_, ?_⟩
  · refine XS.aloadN X0.here hx rfl (hb hby d23_0) rfl rfl ?_
    show SS p e below s₁ m 1 #[rv a1] [(.ref a1)] _
    refine st3 _ ?_
    refine XS.aloadN X3.here hx rfl (hb hby d23_4) rfl rfl ?_
    refine st4 _ ?_
    refine st8 _ ?_
    show SS p e below T8 m 11 #[rv a1] [(.ref b8_0)] _
    exact own_retR X8 hx hret rfl rfl rfl (hb hby d23_11) hr
  · exact ⟨b8_0, kx8_0, rfl, N8, KK8, sz_b8_0, u8_1, u8_2, u8_3⟩
theorem cw37 {a0 Z} (hw : HW a0 Z) : CI a0 Z s47 30 (⟨s46, "toArray", "()[Ljava/lang/Object;"⟩ : MethodName) mn23 s44 0 (.code mn23 jdk_38_method_16_code 1 (some (.array (.object s37)))) :=
  ⟨wx hw 171 rfl, wx hw 172 rfl, ⟨wx hw 173 rfl, by first | rfl | simp [Cond.onTables, Cond.keepsFace, Cond.keeps, Cond.steady]⟩, wx hw 174 rfl, wx hw 175 rfl, wx hw 176 rfl, wx hw 177 rfl, wx hw 169 rfl, wx hw 178 rfl, wx hw 85 rfl, by decide, _, _, pd_15, rfl⟩
theorem d21_50 : DC cb21 50 (.invokestatic 34) 3 := by decide +kernel
theorem d27_0 : DC cb27 0 (.aload_n 0) 1 := by decide +kernel
theorem d27_1 : DC cb27 1 (.arraylength) 1 := by decide +kernel
theorem d27_2 : DC cb27 2 (.tableswitch 57 0 2 #[26, 32, 43]) 26 := by decide +kernel
theorem d27_34 : DC cb27 34 (.new 96) 3 := by decide +kernel
theorem d27_37 : DC cb27 37 (.dup) 1 := by decide +kernel
theorem d27_38 : DC cb27 38 (.aload_n 0) 1 := by decide +kernel
theorem d27_39 : DC cb27 39 (.iconst 0) 1 := by decide +kernel
theorem d27_40 : DC cb27 40 (.aaload) 1 := by decide +kernel
theorem d27_41 : DC cb27 41 (.invokespecial 98) 3 := by decide +kernel
theorem d28_0 : DC cb28 0 (.aload_n 0) 1 := by decide +kernel
theorem d28_1 : DC cb28 1 (.invokespecial 1) 3 := by decide +kernel
theorem d29_0 : DC cb29 0 (.aload_n 0) 1 := by decide +kernel
theorem d29_1 : DC cb29 1 (.invokespecial 1) 3 := by decide +kernel
theorem d30_0 : DC cb30 0 (.aload_n 0) 1 := by decide +kernel
theorem d30_1 : DC cb30 1 (.invokespecial 1) 3 := by decide +kernel
theorem cw38 {a0 Z} (hw : HW a0 Z) : CN a0 Z s48 1 mn12 0 (.code mn12 jdk_22_method_1_code 1 none) :=
  ⟨rfl, wx hw 223 rfl, wx hw 96 rfl, wx hw 100 rfl, wx hw 99 rfl, by decide, _, _, pd_0, rfl⟩
theorem d30_4 : DC cb30 4 (.return_) 1 := by decide +kernel
theorem ef_30_36 (m : MethodId) (x0 : Addr) : entryFrame m #[(.ref x0)] 1 = mkF m 0 #[.val (.ref x0)] [] := by first | (simp [entryFrame, mkF, argsToLocals, Value.category]; done) | rfl
theorem pn_13 : plainName "java/util/ImmutableCollections$AbstractImmutableCollection" = true := by first | (simp [plainName, overriddenIn]; done) | decide +kernel
theorem rm30_0 (l : Launch) (Z : State) (a0 : Array Value) (hw : HW a0 Z) (a1 : Addr) (h0 : Heap) (n0 : Nat) (OL0 : Old Z n0 h0)  :
    MF l Z mn30 jdk_47_method_1_code 1 none ⟨2, 0, 0, 24⟩ #[(.ref a1)] h0 (QR n0 h0 (none)) := by
  refine own_start (plainFor_of_name pn_13) (fun m => (ef_30_36 m a1)) ?_
  intro p e s m below meth c s₁ hZ hx hby hml hown hnm hret X0 e0
  have N0 := Fr.nil n0
  obtain ⟨_, T2, L2, X2, hQ2, st2⟩ := own_cN X0 hx hZ hown hml (cw38 hw) (rm12_0 l Z a0 hw a1 h0 n0 OL0 ) e0 a1 1 #[rv a1] [] [] 0 rfl (hb hby d30_1) (by decide)
  obtain ⟨rfl, Nq2, ec2⟩ := hQ2
  have N2 := Fr.app N0 Nq2
  refine ⟨none, _, _, _, _, _, X2, ec2, by decide, fun _ => rfl, fun fs hr => ?_, ?_⟩
  · refine XS.aloadN X0.here hx rfl (hb hby d30_0) rfl rfl ?_
    show SS p e below s₁ m 1 #[rv a1] [(.ref a1)] _
    refine st2 _ ?_
    show SS p e below T2 m 4 #[rv a1] [] _
    exact X2.returnOut hx hret (hb hby d30_4) hr
  · exact ⟨rfl, N2, rfl⟩
theorem cw39 {a0 Z} (hw : HW a0 Z) : CN a0 Z s49 1 mn30 0 (.code mn30 jdk_47_method_1_code 1 none) :=
  ⟨rfl, wx hw 217 rfl, wx hw 218 rfl, wx hw 222 rfl, wx hw 221 rfl, by decide, _, _, pd_0, rfl⟩
theorem d29_4 : DC cb29 4 (.return_) 1 := by decide +kernel
theorem ef_29_37 (m : MethodId) (x0 : Addr) : entryFrame m #[(.ref x0)] 1 = mkF m 0 #[.val (.ref x0)] [] := by first | (simp [entryFrame, mkF, argsToLocals, Value.category]; done) | rfl
theorem pn_14 : plainName "java/util/ImmutableCollections$AbstractImmutableList" = true := by first | (simp [plainName, overriddenIn]; done) | decide +kernel
theorem rm29_0 (l : Launch) (Z : State) (a0 : Array Value) (hw : HW a0 Z) (a1 : Addr) (h0 : Heap) (n0 : Nat) (OL0 : Old Z n0 h0)  :
    MF l Z mn29 jdk_46_method_1_code 1 none ⟨3, 0, 0, 36⟩ #[(.ref a1)] h0 (QR n0 h0 (none)) := by
  refine own_start (plainFor_of_name pn_14) (fun m => (ef_29_37 m a1)) ?_
  intro p e s m below meth c s₁ hZ hx hby hml hown hnm hret X0 e0
  have N0 := Fr.nil n0
  obtain ⟨_, T2, L2, X2, hQ2, st2⟩ := own_cN X0 hx hZ hown hml (cw39 hw) (rm30_0 l Z a0 hw a1 h0 n0 OL0 ) e0 a1 1 #[rv a1] [] [] 0 rfl (hb hby d29_1) (by decide)
  obtain ⟨rfl, Nq2, ec2⟩ := hQ2
  have N2 := Fr.app N0 Nq2
  refine ⟨none, _, _, _, _, _, X2, ec2, by decide, fun _ => rfl, fun fs hr => ?_, ?_⟩
  · refine XS.aloadN X0.here hx rfl (hb hby d29_0) rfl rfl ?_
    show SS p e below s₁ m 1 #[rv a1] [(.ref a1)] _
    refine st2 _ ?_
    show SS p e below T2 m 4 #[rv a1] [] _
    exact X2.returnOut hx hret (hb hby d29_4) hr
  · exact ⟨rfl, N2, rfl⟩
theorem cw40 {a0 Z} (hw : HW a0 Z) : CN a0 Z s50 1 mn29 0 (.code mn29 jdk_46_method_1_code 1 none) :=
  ⟨rfl, wx hw 211 rfl, wx hw 212 rfl, wx hw 216 rfl, wx hw 215 rfl, by decide, _, _, pd_0, rfl⟩
theorem d28_4 : DC cb28 4 (.aload_n 0) 1 := by decide +kernel
theorem d28_5 : DC cb28 5 (.aload_n 1) 1 := by decide +kernel
theorem d28_6 : DC cb28 6 (.invokestatic 7) 3 := by decide +kernel
theorem d31_0 : DC cb31 0 (.aload_n 0) 1 := by decide +kernel
theorem d31_1 : DC cb31 1 (.ifnonnull 11) 3 := by decide +kernel
theorem d31_12 : DC cb31 12 (.aload_n 0) 1 := by decide +kernel
theorem d31_13 : DC cb31 13 (.areturn) 1 := by decide +kernel
theorem ef_31_38 (m : MethodId) (x0 : Addr) : entryFrame m #[(.ref x0)] 1 = mkF m 0 #[.val (.ref x0)] [] := by first | (simp [entryFrame, mkF, argsToLocals, Value.category]; done) | rfl
theorem pn_15 : plainName "java/util/Objects" = true := by first | (simp [plainName, overriddenIn]; done) | decide +kernel
theorem rm31_0 (l : Launch) (Z : State) (a0 : Array Value) (hw : HW a0 Z) (a1 : Addr) (h0 : Heap) (n0 : Nat) (OL0 : Old Z n0 h0)  :
    MF l Z mn31 jdk_31_method_10_code 1 (some (.object s37)) ⟨0, 0, 0, 0⟩ #[(.ref a1)] h0 (QR n0 h0 (some (.ref a1))) := by
  refine own_start (plainFor_of_name pn_15) (fun m => (ef_31_38 m a1)) ?_
  intro p e s m below meth c s₁ hZ hx hby hml hown hnm hret X0 e0
  have N0 := Fr.nil n0
  refine ⟨some (.ref a1), _, _, _, _, _, X0, e0, by decide, nofun, fun fs hr => ?_, ?_⟩
  · refine XS.aloadN X0.here hx rfl (hb hby d31_0) rfl rfl ?_
    show SS p e below s₁ m 1 #[rv a1] [(.ref a1)] _
    refine XS.ifnonnullYes X0.here hx rfl (pc0 := 1) (pc' := 12) rfl (hb hby d31_1) rfl (by decide) (by decide) ?_
    refine XS.aloadN X0.here hx rfl (hb hby d31_12) rfl rfl ?_
    show SS p e below s₁ m 13 #[rv a1] [(.ref a1)] _
    exact own_retR X0 hx hret rfl rfl rfl (hb hby d31_13) hr
  · exact ⟨rfl, N0, rfl⟩
theorem pd_26 : parseMethodDescriptor "(Ljava/lang/Object;)Ljava/lang/Object;" = some ⟨[(.object "java/lang/Object")], some (.object "java/lang/Object")⟩ := by decide +kernel
theorem cw41 {a0 Z} (hw : HW a0 Z) : CS a0 Z s50 7 mn31 1 (.code mn31 jdk_31_method_10_code 1 (some (.object s37))) :=
  ⟨wx hw 225 rfl, wx hw 226 rfl, wx hw 228 rfl, wx hw 227 rfl, by decide, _, _, pd_26, rfl⟩
theorem d28_9 : DC cb28 9 (.putfield 13) 3 := by decide +kernel
theorem d28_12 : DC cb28 12 (.aload_n 0) 1 := by decide +kernel
theorem d28_13 : DC cb28 13 (.getstatic 19) 3 := by decide +kernel
theorem d28_16 : DC cb28 16 (.putfield 24) 3 := by decide +kernel
theorem d28_19 : DC cb28 19 (.return_) 1 := by decide +kernel
theorem ef_28_39 (m : MethodId) (x0 : Addr) (x1 : Addr) : entryFrame m #[(.ref x0), (.ref x1)] 2 = mkF m 0 #[.val (.ref x0), .val (.ref x1)] [] := by first | (simp [entryFrame, mkF, argsToLocals, Value.category]; done) | rfl
theorem pn_16 : plainName "java/util/ImmutableCollections$List12" = true := by first | (simp [plainName, overriddenIn]; done) | decide +kernel
theorem rm28_0 (l : Launch) (Z : State) (a0 : Array Value) (hw : HW a0 Z) (a1 a2 w6 : Addr) (h0 : Heap) (n0 : Nat) (OL0 : Old Z n0 h0) (pr1 : Exa Z h0 a1 s50) (pr2 : Fld Z h0 a1 s50 "e0" s10 .null) (pr3 : n0 ≤ a1) (pr4 : Sta Z Z.heap s47 "EMPTY" s10 (.ref w6)) (pr5 : Fld Z h0 a1 s50 "e1" s10 .null) :
    MF l Z mn28 jdk_44_method_1_code 2 none ⟨4, 0, 0, 48⟩ #[(.ref a1), (.ref a2)] h0 (fun v h L => v = none ∧ Fr n0 L ∧ Keep h0 h [a1] ∧ Fld Z h a1 s50 "e0" s10 (.ref a2) ∧ Fld Z h a1 s50 "e1" s10 (.ref w6)) := by
  refine own_start (plainFor_of_name pn_16) (fun m => (ef_28_39 m a1 a2)) ?_
  intro p e s m below meth c s₁ hZ hx hby hml hown hnm hret X0 e0
  have N0 := Fr.nil n0
  obtain ⟨_, T3, L3, X3, hQ3, st3⟩ := own_cN X0 hx hZ hown hml (cw40 hw) (rm29_0 l Z a0 hw a1 h0 n0 OL0 ) e0 a1 1 #[rv a1, rv a2] [] [] 0 rfl (hb hby d28_1) (by decide)
  obtain ⟨rfl, Nq3, ec3⟩ := hQ3
  have N3 := Fr.app N0 Nq3
  obtain ⟨_, T4, L4, X4, hQ4, st4⟩ := own_cS X3 hx hZ hown hml (cw41 hw) (rm31_0 l Z a0 hw a2 h0 n0 OL0 ) ec3 6 #[rv a1, rv a2] [(.ref a2)] [(.ref a1)] 1 rfl (hb hby d28_6) (by decide)
  obtain ⟨rfl, Nq4, ec4⟩ := hQ4
  have N4 := Fr.app N3 Nq4
  obtain ⟨T5, h5, X5, e5, W5, st5⟩ := putF X4 hx hZ hown (host := "") (Or.inl (wd229 hw)) Via.refl ec4 pr2 pr1 (Or.inr ⟨(wd230 hw), rfl, hnm⟩) (wd205 hw) (ty := (.object s37)) (by decide) rfl rfl (g := (mkF m 9 #[rv a1, rv a2] [(.ref a2), (.ref a1)])) rfl rfl (hb hby d28_9)
  have Fw5 := pr2.same W5
  have KK5 : Keep h0 h5 [a1] := (Keep.refl h0 [a1]).wr W5 (Or.inl (List.mem_of_getElem? (i := 0) rfl))
  have OL5 := OL0.wr W5 pr3
  have N5 := Fr.snoc X5 N4 pr3
  obtain ⟨T7, X7, e7, st7⟩ := getS2 X5 hx hZ hown (Or.inr (wd231 hw)) Via.refl e5 (pr4.ext OL5.2) (g := (mkF m 13 #[rv a1, rv a2] [(.ref a1)])) rfl (hb hby d28_13)
  have fc8 := (pr1.wr W5)
  have fc9 := (pr5.other W5 (Or.inr (slot_ne (Or.inr (wd233 hw)) (Or.inr (wd230 hw)) (by decide) (t := (.object s37)) (t' := (.object s37)) (by decide) (by decide))))
  obtain ⟨T10, h10, X10, e10, W10, st10⟩ := putF X7 hx hZ hown (host := "") (Or.inl (wd232 hw)) Via.refl e7 fc9 fc8 (Or.inr ⟨(wd233 hw), rfl, hnm⟩) (wd205 hw) (ty := (.object s37)) (by decide) rfl rfl (g := (mkF m 16 #[rv a1, rv a2] [(.ref w6), (.ref a1)])) rfl rfl (hb hby d28_16)
  have Fw10 := fc9.same W10
  have KK10 : Keep h0 h10 [a1] := KK5.wr W10 (Or.inl (List.mem_of_getElem? (i := 0) rfl))
  have N10 := Fr.snoc X10 N5 pr3
  have fc11 := (Fw5.other W10 (Or.inr (slot_ne (Or.inr (wd230 hw)) (Or.inr (wd233 hw)) (by decide) (t := (.object s37)) (t' := (.object s37)) (by decide) (by decide))))
  refine ⟨none, _, _, _, _, _, X10, e10, by decide, fun _ => rfl, fun fs hr => ?_, ?_⟩
  · refine XS.aloadN X0.here hx rfl (hb hby d28_0) rfl rfl ?_
    show SS p e below s₁ m 1 #[rv a1, rv a2] [(.ref a1)] _
    refine st3 _ ?_
    refine XS.aloadN X3.here hx rfl (hb hby d28_4) rfl rfl ?_
    refine XS.aloadN X3.here hx rfl (hb hby d28_5) rfl rfl ?_
    refine st4 _ ?_
    refine st5 _ ?_
    refine XS.aloadN X5.here hx rfl (hb hby d28_12) rfl rfl ?_
    refine st7 _ ?_
    refine st10 _ ?_
    show SS p e below T10 m 19 #[rv a1, rv a2] [] _
    exact X10.returnOut hx hret (hb hby d28_19) hr
  · exact ⟨rfl, N10, KK10, fc11, Fw10⟩
theorem pd_27 : parseMethodDescriptor "(Ljava/lang/Object;)V" = some ⟨[(.object "java/lang/Object")], none⟩ := by decide +kernel
theorem cw42 {a0 Z} (hw : HW a0 Z) : CN a0 Z s52 98 mn28 1 (.code mn28 jdk_44_method_1_code 2 none) :=
  ⟨rfl, wx hw 207 rfl, wx hw 208 rfl, wx hw 210 rfl, wx hw 206 rfl, by decide, _, _, pd_27, rfl⟩
theorem d27_44 : DC cb27 44 (.areturn) 1 := by decide +kernel
theorem ef_27_40 (m : MethodId) (x0 : Addr) : entryFrame m #[(.ref x0)] 2 = mkF m 0 #[.val (.ref x0), .unset] [] := by first | (simp [entryFrame, mkF, argsToLocals, Value.category]; done) | rfl
theorem rm27_0 (l : Launch) (Z : State) (a0 : Array Value) (hw : HW a0 Z) (a1 a2 : Addr) (k3 : ClassId) (w8 : Addr) (h0 : Heap) (n0 : Nat) (OL0 : Old Z n0 h0) (pr1 : Arv Z h0 a1 k3 (.object s37) (1 : Int32) [(.ref a2)] .null) (pr2 : Sta Z Z.heap s47 "EMPTY" s10 (.ref w8)) :
    MF l Z mn27 jdk_40_method_47_code 2 (some (.object s52)) ⟨5, 1, 2, 62⟩ #[(.ref a1)] h0 (fun v h L => ∃ b5 : Addr, v = some (.ref b5) ∧ Fr n0 L ∧ Keep h0 h [] ∧ h0.size ≤ b5 ∧ Exa Z h b5 s50 ∧ Fld Z h b5 s50 "e0" s10 (.ref a2) ∧ Fld Z h b5 s50 "e1" s10 (.ref w8)) := by
  refine own_start (plainFor_of_name pn_8) (fun m => (ef_27_40 m a1)) ?_
  intro p e s m below meth c s₁ hZ hx hby hml hown hnm hret X0 e0
  have N0 := Fr.nil n0
  obtain ⟨cl4, Ar4, -, Sz4, Nn4, -, -⟩ := id pr1
  obtain ⟨T5, h5, X5, e5, E5, A5, D5, -, st5⟩ := newO X0 hx hZ hown (wd204 hw) (wd205 hw) (wd206 hw) e0 (g := (mkF m 34 #[rv a1, uu] [])) rfl (hb hby d27_34) (by decide) (by decide)
  obtain ⟨b5, g5⟩ : ∃ z, z = h0.size := ⟨_, rfl⟩
  rw [← g5] at A5 D5 st5
  have g_b5 : n0 ≤ b5 := (Nat.le_trans (Nat.le_trans (Nat.le_of_eq OL0.1.symm) OL0.2.1) (Nat.le_of_eq g5.symm))
  have sz_b5 : h0.size ≤ b5 := (Nat.le_trans (Keep.refl h0 []).1 (Nat.le_of_eq g5.symm))
  have KK5 : Keep h0 h5 [] := (Keep.refl h0 []).ext E5
  have OL5 := OL0.ext E5
  have F_e0_b5 : Fld Z h5 b5 s50 "e0" s10 .null := D5 (Or.inr (wd230 hw)) (ty := (.object s37)) (by decide)
  have F_e1_b5 : Fld Z h5 b5 s50 "e1" s10 .null := D5 (Or.inr (wd233 hw)) (ty := (.object s37)) (by decide)
  have fc6 := (pr1.ext E5)
  obtain ⟨_, T9, L9, X9, hQ9, st9⟩ := own_cN X5 hx hZ hown hml (cw42 hw) (rm28_0 l Z a0 hw b5 a2 w8 h5 n0 OL5 A5 F_e0_b5 g_b5 pr2 F_e1_b5) e5 b5 41 #[rv a1, uu] [(.ref a2)] [(.ref b5)] 1 rfl (hb hby d27_41) (by decide)
  obtain ⟨rfl, Nq9, K9, u9_0, u9_1⟩ := hQ9
  have KK9 : Keep h0 T9.heap [] := KK5.trans K9 (allS (Or.inr sz_b5) all0)
  have N9 := Fr.app N0 Nq9
  have fc10 := (A5.keep K9)
  refine ⟨some (.ref b5), _, _, _, _, _, X9, rfl, by decide, nofun, fun fs hr => ?_, ?_⟩
  · refine XS.aloadN X0.here hx rfl (hb hby d27_0) rfl rfl ?_
    show SS p e below s₁ m 1 #[rv a1, uu] [(.ref a1)] _
    refine X0.arraylength hx (by rw [e0]; exact Ar4.1) (State.isArrayOf_alike hZ.alike Ar4.2.1) (g := (mkF m 1 #[rv a1, uu] [(.ref a1)])) rfl rfl (hb hby d27_1) _ ?_
    rw [len_of Sz4 Nn4]
    refine XS.tswIn X0.here hx rfl (pc0 := 2) (pc' := 34) (o := 32) rfl (hb hby d27_2) rfl (by decide) (by decide) (by decide) (by decide) ?_
    refine st5 _ ?_
    refine XS.dup X5.here hx rfl (hb hby d27_37) rfl rfl ?_
    refine XS.aloadN X5.here hx rfl (hb hby d27_38) rfl rfl ?_
    refine XS.iconst X5.here hx rfl (hb hby d27_39) ?_
    refine own_laR X5 hx hZ e5 fc6 (v := (.ref a2)) (by decide) rfl rfl (hb hby d27_40) ?_
    refine st9 _ ?_
    show SS p e below T9 m 44 #[rv a1, uu] [(.ref b5)] _
    exact own_retR X9 hx hret rfl rfl rfl (hb hby d27_44) hr
  · exact ⟨b5, rfl, N9, KK9, sz_b5, fc10, u9_0, u9_1⟩
theorem pd_28 : parseMethodDescriptor "([Ljava/lang/Object;)Ljava/util/List;" = some ⟨[(.array (.object "java/lang/Object"))], some (.object "java/util/List")⟩ := by decide +kernel
theorem cw43 {a0 Z} (hw : HW a0 Z) : CS a0 Z s47 34 mn27 1 (.code mn27 jdk_40_method_47_code 2 (some (.object s52))) :=
  ⟨wx hw 201 rfl, wx hw 202 rfl, wx hw 203 rfl, wx hw 150 rfl, by decide, _, _, pd_28, rfl⟩
theorem d21_53 : DC cb21 53 (.areturn) 1 := by decide +kernel
theorem rm21_1 (l : Launch) (Z : State) (a0 : Array Value) (hw : HW a0 Z) (a1 a5 w6 a7 : Addr) (k8 : ClassId) (w10 : Addr) (h0 : Heap) (n0 : Nat) (OL0 : Old Z n0 h0) (pr1 : Exa Z h0 a1 s44) (pr2 : Fld Z h0 a1 s44 "size" "I" (.int (1 : Int32))) (pr3 : Fld Z h0 a1 s44 s32 s21 (.ref a5)) (pr4 : MirM Z s21 w6) (pr5 : Exa Z h0 a5 s21) (pr6 : Arv Z h0 a5 k8 (.object s37) (10 : Int32) [(.ref a7), .null, .null, .null, .null, .null, .null, .null, .null, .null] .null) (pr7 : Exa Z h0 a7 s29) (pr8 : Sta Z Z.heap s47 "EMPTY" s10 (.ref w10)) :
    MF l Z mn21 jdk_56_method_3_code 2 (some (.object s52)) ⟨6, 2, 3, 75⟩ #[(.ref a1)] h0 (fun v h L => ∃ b11_0 : Addr, v = some (.ref b11_0) ∧ Fr n0 L ∧ Keep h0 h [] ∧ h0.size ≤ b11_0 ∧ Exa Z h b11_0 s50 ∧ Fld Z h b11_0 s50 "e0" s10 (.ref a7) ∧ Fld Z h b11_0 s50 "e1" s10 (.ref w10)) := by
  refine own_start (plainFor_of_name pn_9) (fun m => (ef_21_13 m a1)) ?_
  intro p e s m below meth c s₁ hZ hx hby hml hown hnm hret X0 e0
  have N0 := Fr.nil n0
  obtain ⟨T2, X2, e2, st2⟩ := instNo X0 hx hZ hown (wd156 hw) e0 pr1 (own_no (wd157 hw) (NI.inst (wd205 hw)) (NS.step (wd157 hw) (NS.step (wd158 hw) (NS.step (wd159 hw) (own_root (wd160 hw) (NI.inst (wd205 hw)) (by decide)) (by decide)) (by decide)) (by decide)) (by decide)) (g := (mkF m 1 #[rv a1, uu] [(.ref a1)])) rfl rfl (hb hby d21_1)
  obtain ⟨T3, X3, e3, st3⟩ := instNo X2 hx hZ hown (wd161 hw) e2 pr1 (own_no (wd157 hw) (NI.inst (wd326 hw)) (NS.step (wd157 hw) (NS.step (wd158 hw) (NS.step (wd159 hw) (own_root (wd160 hw) (NI.inst (wd326 hw)) (by decide)) (by decide)) (by decide)) (by decide)) (by decide)) (g := (mkF m 8 #[rv a1, uu] [(.ref a1)])) rfl rfl (hb hby d21_8)
  obtain ⟨_, T4, L4, X4, hQ4, st4⟩ := own_cI X3 hx hZ hown hml (cw12 hw) (rm22_1 l Z a0 hw a1 h0 n0 OL0 pr2) e3 pr1 32 #[rv a1, uu] [] [] 0 rfl (hb hby d21_32) (by decide)
  obtain ⟨rfl, Nq4, ec4⟩ := hQ4
  have N4 := Fr.app N0 Nq4
  obtain ⟨_, T9, L9, X9, hQ9, st9⟩ := own_cI X4 hx hZ hown hml (cw37 hw) (rm23_0 l Z a0 hw a1 a5 w6 a7 k8 h0 n0 OL0 pr3 pr2 pr4 pr5 pr6 pr7) ec4 pr1 45 #[rv a1, uu] [] [] 0 rfl (hb hby d21_45) (by decide)
  obtain ⟨b9_0, kx9_0, rfl, Nq9, K9, u9_0, u9_1, u9_2, u9_3⟩ := hQ9
  have KK9 : Keep h0 T9.heap [] := (Keep.refl h0 []).trans K9 all0
  have OL9 := OL0.keep K9 all0
  have N9 := Fr.app N4 Nq9
  obtain ⟨_, T11, L11, X11, hQ11, st11⟩ := own_cS X9 hx hZ hown hml (cw43 hw) (rm27_0 l Z a0 hw b9_0 a7 kx9_0 w10 T9.heap n0 OL9 u9_1 pr8) rfl 50 #[rv a1, uu] [(.ref b9_0)] [] 0 rfl (hb hby d21_50) (by decide)
  obtain ⟨b11_0, rfl, Nq11, K11, u11_0, u11_1, u11_2, u11_3⟩ := hQ11
  have KK11 : Keep h0 T11.heap [] := KK9.trans K11 all0
  have sz_b11_0 : h0.size ≤ b11_0 := Nat.le_trans KK9.1 u11_0
  have N11 := Fr.app N9 Nq11
  refine ⟨some (.ref b11_0), _, _, _, _, _, X11, rfl, by decide, nofun, fun fs hr => ?_, ?_⟩
  · refine XS.aloadN X0.here hx rfl (hb hby d21_0) rfl rfl ?_
    show SS p e below s₁ m 1 #[rv a1, uu] [(.ref a1)] _
    refine st2 _ ?_
    refine XS.ifNo X2.here hx rfl (hb hby d21_4) rfl ((if0 _ _).trans (teq (rfl : (0 : Int32) = (0 : Int32))).2) ?_
    refine XS.aloadN X2.here hx rfl (hb hby d21_7) rfl rfl ?_
    refine st3 _ ?_
    refine XS.ifYes X3.here hx rfl (pc0 := 11) (pc' := 31) rfl (hb hby d21_11) rfl ((if0 _ _).trans (teq (rfl : (0 : Int32) = (0 : Int32))).1) (by decide) (by decide) ?_
    refine XS.aloadN X3.here hx rfl (hb hby d21_31) rfl rfl ?_
    refine st4 _ ?_
    refine XS.ifYes X4.here hx rfl (pc0 := 37) (pc' := 44) rfl (hb hby d21_37) rfl ((if0 _ _).trans (teq (rfl : (0 : Int32) = (0 : Int32))).1) (by decide) (by decide) ?_
    refine XS.aloadN X4.here hx rfl (hb hby d21_44) rfl rfl ?_
    refine st9 _ ?_
    show SS p e below T9 m 50 #[rv a1, uu] [(.ref b9_0)] _
    refine st11 _ ?_
    show SS p e below T11 m 53 #[rv a1, uu] [(.ref b11_0)] _
    exact own_retR X11 hx hret rfl rfl rfl (hb hby d21_53) hr
  · exact ⟨b11_0, rfl, N11, KK11, sz_b11_0, u11_1, u11_2, u11_3⟩
theorem rm20_1 (l : Launch) (Z : State) (a0 : Array Value) (hw : HW a0 Z) (a1 a2 w3 a4 : Addr) (k5 : ClassId) (w6 : Addr) (h0 : Heap) (n0 : Nat) (OL0 : Old Z n0 h0) (pr1 : Exa Z h0 a1 s44) (pr2 : Fld Z h0 a1 s44 "size" "I" (.int (1 : Int32))) (pr3 : Fld Z h0 a1 s44 s32 s21 (.ref a2)) (pr4 : MirM Z s21 w3) (pr5 : Exa Z h0 a2 s21) (pr6 : Arv Z h0 a2 k5 (.object s37) (10 : Int32) [(.ref a4), .null, .null, .null, .null, .null, .null, .null, .null, .null] .null) (pr7 : Exa Z h0 a4 s29) (pr8 : Sta Z Z.heap s47 "EMPTY" s10 (.ref w6)) :
    MF l Z mn20 jdk_40_method_48_code 1 (some (.object s52)) ⟨7, 2, 3, 88⟩ #[(.ref a1)] h0 (fun v h L => ∃ b7_0 : Addr, v = some (.ref b7_0) ∧ Fr n0 L ∧ Keep h0 h [] ∧ h0.size ≤ b7_0 ∧ Exa Z h b7_0 s50 ∧ Fld Z h b7_0 s50 "e0" s10 (.ref a4) ∧ Fld Z h b7_0 s50 "e1" s10 (.ref w6)) := by
  refine own_start (plainFor_of_name pn_8) (fun m => (ef_20_14 m a1)) ?_
  intro p e s m below meth c s₁ hZ hx hby hml hown hnm hret X0 e0
  have N0 := Fr.nil n0
  obtain ⟨_, T7, L7, X7, hQ7, st7⟩ := own_cS X0 hx hZ hown hml (cw14 hw) (rm21_1 l Z a0 hw a1 a2 w3 a4 k5 w6 h0 n0 OL0 pr1 pr2 pr3 pr4 pr5 pr6 pr7 pr8) e0 1 #[rv a1] [(.ref a1)] [] 0 rfl (hb hby d20_1) (by decide)
  obtain ⟨b7_0, rfl, Nq7, K7, u7_0, u7_1, u7_2, u7_3⟩ := hQ7
  have KK7 : Keep h0 T7.heap [] := (Keep.refl h0 []).trans K7 all0
  have sz_b7_0 : h0.size ≤ b7_0 := Nat.le_trans (Keep.refl h0 []).1 u7_0
  have N7 := Fr.app N0 Nq7
  refine ⟨some (.ref b7_0), _, _, _, _, _, X7, rfl, by decide, nofun, fun fs hr => ?_, ?_⟩
  · refine XS.aloadN X0.here hx rfl (hb hby d20_0) rfl rfl ?_
    show SS p e below s₁ m 1 #[rv a1] [(.ref a1)] _
    refine st7 _ ?_
    show SS p e below T7 m 4 #[rv a1] [(.ref b7_0)] _
    exact own_retR X7 hx hret rfl rfl rfl (hb hby d20_4) hr
  · exact ⟨b7_0, rfl, N7, KK7, sz_b7_0, u7_1, u7_2, u7_3⟩
theorem rm19_1 (l : Launch) (Z : State) (a0 : Array Value) (hw : HW a0 Z) (a1 a2 a3 w4 a5 a7 w8 a9 : Addr) (k10 : ClassId) (w11 : Addr) (h0 : Heap) (n0 : Nat) (OL0 : Old Z n0 h0) (pr1 : Exa Z h0 a5 s44) (pr2 : Fld Z h0 a5 s44 "size" "I" (.int (1 : Int32))) (pr3 : Fld Z h0 a5 s44 s32 s21 (.ref a7)) (pr4 : MirM Z s21 w8) (pr5 : Exa Z h0 a7 s21) (pr6 : Arv Z h0 a7 k10 (.object s37) (10 : Int32) [(.ref a9), .null, .null, .null, .null, .null, .null, .null, .null, .null] .null) (pr7 : Exa Z h0 a9 s29) (pr8 : Sta Z Z.heap s47 "EMPTY" s10 (.ref w11)) (pr9 : Exa Z h0 a1 s27) (pr10 : Fld Z h0 a1 s27 "id" s11 .null) (pr11 : n0 ≤ a1) (pr12 : Fld Z h0 a1 s27 "name" s11 .null) (pr13 : Fld Z h0 a1 s27 "basis" s9 .null) (pr14 : Fld Z h0 a1 s27 "onlyFor" s16 .null) (pr15 : Fld Z h0 a1 s27 s24 s16 .null) (pr16 : Fld Z h0 a1 s27 "prices" s15 .null) :
    MF l Z mn19 prog_22_method_1_code 7 none ⟨8, 2, 3, 100⟩ #[(.ref a1), (.ref a2), (.ref a3), (.ref w4), .null, .null, (.ref a5)] h0 (fun v h L => ∃ b12_0 : Addr, v = none ∧ Fr n0 L ∧ Keep h0 h [a1] ∧ h0.size ≤ b12_0 ∧ Fld Z h a1 s27 "id" s11 (.ref a2) ∧ Fld Z h a1 s27 "name" s11 (.ref a3) ∧ Fld Z h a1 s27 "basis" s9 (.ref w4) ∧ Fld Z h a1 s27 "onlyFor" s16 .null ∧ Fld Z h a1 s27 s24 s16 .null ∧ Fld Z h a1 s27 "prices" s15 (.ref b12_0) ∧ Exa Z h b12_0 s50 ∧ Fld Z h b12_0 s50 "e0" s10 (.ref a9) ∧ Fld Z h b12_0 s50 "e1" s10 (.ref w11)) := by
  refine own_start (plainFor_of_name pn_10) (fun m => (ef_19_15 m a1 a2 a3 w4 a5)) ?_
  intro p e s m below meth c s₁ hZ hx hby hml hown hnm hret X0 e0
  have N0 := Fr.nil n0
  obtain ⟨_, T6, L6, X6, hQ6, st6⟩ := own_cN X0 hx hZ hown hml (cw11 hw) (rm2_0 l Z a0 hw a1 h0 n0 OL0 ) e0 a1 1 #[rv a1, rv a2, rv a3, rv w4, .val .null, .val .null, rv a5] [] [] 0 rfl (hb hby d19_1) (by decide)
  obtain ⟨rfl, Nq6, ec6⟩ := hQ6
  have N6 := Fr.app N0 Nq6
  obtain ⟨_, T12, L12, X12, hQ12, st12⟩ := own_cS X6 hx hZ hown hml (cw15 hw) (rm20_1 l Z a0 hw a5 a7 w8 a9 k10 w11 h0 n0 OL0 pr1 pr2 pr3 pr4 pr5 pr6 pr7 pr8) ec6 6 #[rv a1, rv a2, rv a3, rv w4, .val .null, .val .null, rv a5] [(.ref a5)] [] 0 rfl (hb hby d19_6) (by decide)
  obtain ⟨b12_0, rfl, Nq12, K12, u12_0, u12_1, u12_2, u12_3⟩ := hQ12
  have KK12 : Keep h0 T12.heap [a1] := (Keep.refl h0 [a1]).trans K12 all0
  have sz_b12_0 : h0.size ≤ b12_0 := Nat.le_trans (Keep.refl h0 [a1]).1 u12_0
  have N12 := Fr.app N6 Nq12
  have fc13 := (pr9.keep K12)
  have fc14 := (pr10.keep K12 nin0)
  obtain ⟨T15, h15, X15, e15, W15, st15⟩ := putF X12 hx hZ hown (host := "") (Or.inl (wd234 hw)) Via.refl rfl fc14 fc13 (Or.inr ⟨(wd235 hw), rfl, hnm⟩) (wd142 hw) (ty := (.object s39)) (by decide) rfl rfl (g := (mkF m 13 #[rv a1, rv a2, rv a3, rv w4, .val .null, .val .null, rv b12_0] [(.ref a2), (.ref a1)])) rfl rfl (hb hby d19_13)
  have Fw15 := fc14.same W15
  have KK15 : Keep h0 h15 [a1] := KK12.wr W15 (Or.inl (List.mem_of_getElem? (i := 0) rfl))
  have N15 := Fr.snoc X15 N12 pr11
  have fc16 := (fc13.wr W15)
  have fc17 := ((pr12.keep K12 nin0).other W15 (Or.inr (slot_ne (Or.inr (wd237 hw)) (Or.inr (wd235 hw)) (by decide) (t := (.object s39)) (t' := (.object s39)) (by decide) (by decide))))
  obtain ⟨T18, h18, X18, e18, W18, st18⟩ := putF X15 hx hZ hown (host := "") (Or.inl (wd236 hw)) Via.refl e15 fc17 fc16 (Or.inr ⟨(wd237 hw), rfl, hnm⟩) (wd142 hw) (ty := (.object s39)) (by decide) rfl rfl (g := (mkF m 18 #[rv a1, rv a2, rv a3, rv w4, .val .null, .val .null, rv b12_0] [(.ref a3), (.ref a1)])) rfl rfl (hb hby d19_18)
  have Fw18 := fc17.same W18
  have KK18 : Keep h0 h18 [a1] := KK15.wr W18 (Or.inl (List.mem_of_getElem? (i := 0) rfl))
  have N18 := Fr.snoc X18 N15 pr11
  have fc19 := (fc16.wr W18)
  have fc20 := (((pr13.keep K12 nin0).other W15 (Or.inr (slot_ne (Or.inr (wd239 hw)) (Or.inr (wd235 hw)) (by decide) (t := (.object s26)) (t' := (.object s39)) (by decide) (by decide)))).other W18 (Or.inr (slot_ne (Or.inr (wd239 hw)) (Or.inr (wd237 hw)) (by decide) (t := (.object s26)) (t' := (.object s39)) (by decide) (by decide))))
  obtain ⟨T21, h21, X21, e21, W21, st21⟩ := putF X18 hx hZ hown (host := "") (Or.inl (wd238 hw)) Via.refl e18 fc20 fc19 (Or.inr ⟨(wd239 hw), rfl, hnm⟩) (wd142 hw) (ty := (.object s26)) (by decide) rfl rfl (g := (mkF m 23 #[rv a1, rv a2, rv a3, rv w4, .val .null, .val .null, rv b12_0] [(.ref w4), (.ref a1)])) rfl rfl (hb hby d19_23)
  have Fw21 := fc20.same W21
  have KK21 : Keep h0 h21 [a1] := KK18.wr W21 (Or.inl (List.mem_of_getElem? (i := 0) rfl))
  have N21 := Fr.snoc X21 N18 pr11
  have fc22 := (fc19.wr W21)
  have fc23 := ((((pr14.keep K12 nin0).other W15 (Or.inr (slot_ne (Or.inr (wd241 hw)) (Or.inr (wd235 hw)) (by decide) (t := (.object s54)) (t' := (.object s39)) (by decide) (by decide)))).other W18 (Or.inr (slot_ne (Or.inr (wd241 hw)) (Or.inr (wd237 hw)) (by decide) (t := (.object s54)) (t' := (.object s39)) (by decide) (by decide)))).other W21 (Or.inr (slot_ne (Or.inr (wd241 hw)) (Or.inr (wd239 hw)) (by decide) (t := (.object s54)) (t' := (.object s26)) (by decide) (by decide))))
  obtain ⟨T24, h24, X24, e24, W24, st24⟩ := putF X21 hx hZ hown (host := "") (Or.inl (wd240 hw)) Via.refl e21 fc23 fc22 (Or.inr ⟨(wd241 hw), rfl, hnm⟩) (wd142 hw) (ty := (.object s54)) (by decide) rfl rfl (g := (mkF m 29 #[rv a1, rv a2, rv a3, rv w4, .val .null, .val .null, rv b12_0] [.null, (.ref a1)])) rfl rfl (hb hby d19_29)
  have Fw24 := fc23.same W24
  have KK24 : Keep h0 h24 [a1] := KK21.wr W24 (Or.inl (List.mem_of_getElem? (i := 0) rfl))
  have N24 := Fr.snoc X24 N21 pr11
  have fc25 := (fc22.wr W24)
  have fc26 := (((((pr15.keep K12 nin0).other W15 (Or.inr (slot_ne (Or.inr (wd243 hw)) (Or.inr (wd235 hw)) (by decide) (t := (.object s54)) (t' := (.object s39)) (by decide) (by decide)))).other W18 (Or.inr (slot_ne (Or.inr (wd243 hw)) (Or.inr (wd237 hw)) (by decide) (t := (.object s54)) (t' := (.object s39)) (by decide) (by decide)))).other W21 (Or.inr (slot_ne (Or.inr (wd243 hw)) (Or.inr (wd239 hw)) (by decide) (t := (.object s54)) (t' := (.object s26)) (by decide) (by decide)))).other W24 (Or.inr (slot_ne (Or.inr (wd243 hw)) (Or.inr (wd241 hw)) (by decide) (t := (.object s54)) (t' := (.object s54)) (by decide) (by decide))))
  obtain ⟨T27, h27, X27, e27, W27, st27⟩ := putF X24 hx hZ hown (host := "") (Or.inl (wd242 hw)) Via.refl e24 fc26 fc25 (Or.inr ⟨(wd243 hw), rfl, hnm⟩) (wd142 hw) (ty := (.object s54)) (by decide) rfl rfl (g := (mkF m 35 #[rv a1, rv a2, rv a3, rv w4, .val .null, .val .null, rv b12_0] [.null, (.ref a1)])) rfl rfl (hb hby d19_35)
  have Fw27 := fc26.same W27
  have KK27 : Keep h0 h27 [a1] := KK24.wr W27 (Or.inl (List.mem_of_getElem? (i := 0) rfl))
  have N27 := Fr.snoc X27 N24 pr11
  have fc28 := (fc25.wr W27)
  have fc29 := ((((((pr16.keep K12 nin0).other W15 (Or.inr (slot_ne (Or.inr (wd245 hw)) (Or.inr (wd235 hw)) (by decide) (t := (.object s52)) (t' := (.object s39)) (by decide) (by decide)))).other W18 (Or.inr (slot_ne (Or.inr (wd245 hw)) (Or.inr (wd237 hw)) (by decide) (t := (.object s52)) (t' := (.object s39)) (by decide) (by decide)))).other W21 (Or.inr (slot_ne (Or.inr (wd245 hw)) (Or.inr (wd239 hw)) (by decide) (t := (.object s52)) (t' := (.object s26)) (by decide) (by decide)))).other W24 (Or.inr (slot_ne (Or.inr (wd245 hw)) (Or.inr (wd241 hw)) (by decide) (t := (.object s52)) (t' := (.object s54)) (by decide) (by decide)))).other W27 (Or.inr (slot_ne (Or.inr (wd245 hw)) (Or.inr (wd243 hw)) (by decide) (t := (.object s52)) (t' := (.object s54)) (by decide) (by decide))))
  obtain ⟨T30, h30, X30, e30, W30, st30⟩ := putF X27 hx hZ hown (host := "") (Or.inl (wd244 hw)) Via.refl e27 fc29 fc28 (Or.inr ⟨(wd245 hw), rfl, hnm⟩) (wd142 hw) (ty := (.object s52)) (by decide) rfl rfl (g := (mkF m 41 #[rv a1, rv a2, rv a3, rv w4, .val .null, .val .null, rv b12_0] [(.ref b12_0), (.ref a1)])) rfl rfl (hb hby d19_41)
  have Fw30 := fc29.same W30
  have KK30 : Keep h0 h30 [a1] := KK27.wr W30 (Or.inl (List.mem_of_getElem? (i := 0) rfl))
  have N30 := Fr.snoc X30 N27 pr11
  have fc31 := (((((Fw15.other W18 (Or.inr (slot_ne (Or.inr (wd235 hw)) (Or.inr (wd237 hw)) (by decide) (t := (.object s39)) (t' := (.object s39)) (by decide) (by decide)))).other W21 (Or.inr (slot_ne (Or.inr (wd235 hw)) (Or.inr (wd239 hw)) (by decide) (t := (.object s39)) (t' := (.object s26)) (by decide) (by decide)))).other W24 (Or.inr (slot_ne (Or.inr (wd235 hw)) (Or.inr (wd241 hw)) (by decide) (t := (.object s39)) (t' := (.object s54)) (by decide) (by decide)))).other W27 (Or.inr (slot_ne (Or.inr (wd235 hw)) (Or.inr (wd243 hw)) (by decide) (t := (.object s39)) (t' := (.object s54)) (by decide) (by decide)))).other W30 (Or.inr (slot_ne (Or.inr (wd235 hw)) (Or.inr (wd245 hw)) (by decide) (t := (.object s39)) (t' := (.object s52)) (by decide) (by decide))))
  have fc32 := ((((Fw18.other W21 (Or.inr (slot_ne (Or.inr (wd237 hw)) (Or.inr (wd239 hw)) (by decide) (t := (.object s39)) (t' := (.object s26)) (by decide) (by decide)))).other W24 (Or.inr (slot_ne (Or.inr (wd237 hw)) (Or.inr (wd241 hw)) (by decide) (t := (.object s39)) (t' := (.object s54)) (by decide) (by decide)))).other W27 (Or.inr (slot_ne (Or.inr (wd237 hw)) (Or.inr (wd243 hw)) (by decide) (t := (.object s39)) (t' := (.object s54)) (by decide) (by decide)))).other W30 (Or.inr (slot_ne (Or.inr (wd237 hw)) (Or.inr (wd245 hw)) (by decide) (t := (.object s39)) (t' := (.object s52)) (by decide) (by decide))))
  have fc33 := (((Fw21.other W24 (Or.inr (slot_ne (Or.inr (wd239 hw)) (Or.inr (wd241 hw)) (by decide) (t := (.object s26)) (t' := (.object s54)) (by decide) (by decide)))).other W27 (Or.inr (slot_ne (Or.inr (wd239 hw)) (Or.inr (wd243 hw)) (by decide) (t := (.object s26)) (t' := (.object s54)) (by decide) (by decide)))).other W30 (Or.inr (slot_ne (Or.inr (wd239 hw)) (Or.inr (wd245 hw)) (by decide) (t := (.object s26)) (t' := (.object s52)) (by decide) (by decide))))
  have fc34 := ((Fw24.other W27 (Or.inr (slot_ne (Or.inr (wd241 hw)) (Or.inr (wd243 hw)) (by decide) (t := (.object s54)) (t' := (.object s54)) (by decide) (by decide)))).other W30 (Or.inr (slot_ne (Or.inr (wd241 hw)) (Or.inr (wd245 hw)) (by decide) (t := (.object s54)) (t' := (.object s52)) (by decide) (by decide))))
  have fc35 := (Fw27.other W30 (Or.inr (slot_ne (Or.inr (wd243 hw)) (Or.inr (wd245 hw)) (by decide) (t := (.object s54)) (t' := (.object s52)) (by decide) (by decide))))
  have fc36 := ((((((u12_1.wr W15).wr W18).wr W21).wr W24).wr W27).wr W30)
  have nz37 := nl pr9.lt sz_b12_0
  have fc38 := ((((((u12_2.other W15 (Or.inl (Ne.symm nz37))).other W18 (Or.inl (Ne.symm nz37))).other W21 (Or.inl (Ne.symm nz37))).other W24 (Or.inl (Ne.symm nz37))).other W27 (Or.inl (Ne.symm nz37))).other W30 (Or.inl (Ne.symm nz37)))
  have fc39 := ((((((u12_3.other W15 (Or.inl (Ne.symm nz37))).other W18 (Or.inl (Ne.symm nz37))).other W21 (Or.inl (Ne.symm nz37))).other W24 (Or.inl (Ne.symm nz37))).other W27 (Or.inl (Ne.symm nz37))).other W30 (Or.inl (Ne.symm nz37)))
  refine ⟨none, _, _, _, _, _, X30, e30, by decide, fun _ => rfl, fun fs hr => ?_, ?_⟩
  · refine XS.aloadN X0.here hx rfl (hb hby d19_0) rfl rfl ?_
    show SS p e below s₁ m 1 #[rv a1, rv a2, rv a3, rv w4, .val .null, .val .null, rv a5] [(.ref a1)] _
    refine st6 _ ?_
    refine XS.aload X6.here hx rfl (hb hby d19_4) rfl rfl ?_
    refine st12 _ ?_
    refine XS.astore X12.here hx rfl (hb hby d19_9) rfl rfl (l' := #[rv a1, rv a2, rv a3, rv w4, .val .null, .val .null, rv b12_0]) rfl ?_
    refine XS.aloadN X12.here hx rfl (hb hby d19_11) rfl rfl ?_
    refine XS.aloadN X12.here hx rfl (hb hby d19_12) rfl rfl ?_
    refine st15 _ ?_
    refine XS.aloadN X15.here hx rfl (hb hby d19_16) rfl rfl ?_
    refine XS.aloadN X15.here hx rfl (hb hby d19_17) rfl rfl ?_
    refine st18 _ ?_
    show SS p e below T18 m 21 #[rv a1, rv a2, rv a3, rv w4, .val .null, .val .null, rv b12_0] [] _
    refine XS.aloadN X18.here hx rfl (hb hby d19_21) rfl rfl ?_
    refine XS.aloadN X18.here hx rfl (hb hby d19_22) rfl rfl ?_
    refine st21 _ ?_
    refine XS.aloadN X21.here hx rfl (hb hby d19_26) rfl rfl ?_
    refine XS.aload X21.here hx rfl (hb hby d19_27) rfl rfl ?_
    refine st24 _ ?_
    refine XS.aloadN X24.here hx rfl (hb hby d19_32) rfl rfl ?_
    refine XS.aload X24.here hx rfl (hb hby d19_33) rfl rfl ?_
    refine st27 _ ?_
    refine XS.aloadN X27.here hx rfl (hb hby d19_38) rfl rfl ?_
    show SS p e below T27 m 39 #[rv a1, rv a2, rv a3, rv w4, .val .null, .val .null, rv b12_0] [(.ref a1)] _
    refine XS.aload X27.here hx rfl (hb hby d19_39) rfl rfl ?_
    refine st30 _ ?_
    show SS p e below T30 m 44 #[rv a1, rv a2, rv a3, rv w4, .val .null, .val .null, rv b12_0] [] _
    exact X30.returnOut hx hret (hb hby d19_44) hr
  · exact ⟨b12_0, rfl, N30, KK30, sz_b12_0, fc31, fc32, fc33, fc34, fc35, Fw30, fc36, fc38, fc39⟩
theorem rm32_1 (l : Launch) (Z : State) (a0 : Array Value) (hw : HW a0 Z) (a1 a2 a4 a7 w10 a17 w18 a19 : Addr) (k20 : ClassId) (w21 : Addr) (h0 : Heap) (n0 : Nat) (OL0 : Old Z n0 h0) (pr1 : Fld Z h0 a1 s27 "id" s11 (.ref a4)) (pr2 : Fld Z h0 a1 s27 "name" s11 (.ref a7)) (pr3 : Fld Z h0 a1 s27 "basis" s9 (.ref w10)) (pr4 : Fld Z h0 a1 s27 "onlyFor" s16 .null) (pr5 : Fld Z h0 a1 s27 s24 s16 .null) (pr6 : Exa Z h0 a2 s44) (pr7 : Fld Z h0 a2 s44 "size" "I" (.int (1 : Int32))) (pr8 : Fld Z h0 a2 s44 s32 s21 (.ref a17)) (pr9 : MirM Z s21 w18) (pr10 : Exa Z h0 a17 s21) (pr11 : Arv Z h0 a17 k20 (.object s37) (10 : Int32) [(.ref a19), .null, .null, .null, .null, .null, .null, .null, .null, .null] .null) (pr12 : Exa Z h0 a19 s29) (pr13 : Sta Z Z.heap s47 "EMPTY" s10 (.ref w21)) :
    MF l Z mn32 prog_22_method_2_code 2 (some (.object s27)) ⟨9, 3, 9, 119⟩ #[(.ref a1), (.ref a2)] h0 (fun v h L => ∃ b3 : Addr, ∃ b22_0 : Addr, v = some (.ref b3) ∧ Fr n0 L ∧ Keep h0 h [] ∧ h0.size ≤ b3 ∧ h0.size ≤ b22_0 ∧ b3 ≠ b22_0 ∧ Exa Z h b3 s27 ∧ Fld Z h b3 s27 "id" s11 (.ref a4) ∧ Fld Z h b3 s27 "name" s11 (.ref a7) ∧ Fld Z h b3 s27 "basis" s9 (.ref w10) ∧ Fld Z h b3 s27 "onlyFor" s16 .null ∧ Fld Z h b3 s27 s24 s16 .null ∧ Fld Z h b3 s27 "prices" s15 (.ref b22_0) ∧ Exa Z h b22_0 s50 ∧ Fld Z h b22_0 s50 "e0" s10 (.ref a19) ∧ Fld Z h b22_0 s50 "e1" s10 (.ref w21)) := by
  refine own_start (plainFor_of_name pn_10) (fun m => (ef_32_16 m a1 a2)) ?_
  intro p e s m below meth c s₁ hZ hx hby hml hown hnm hret X0 e0
  have N0 := Fr.nil n0
  obtain ⟨T3, h3, X3, e3, E3, A3, D3, -, st3⟩ := newO X0 hx hZ hown (wd251 hw) (wd142 hw) (wd143 hw) e0 (g := (mkF m 0 #[rv a1, rv a2] [])) rfl (hb hby d32_0) (by decide) (by decide)
  obtain ⟨b3, g3⟩ : ∃ z, z = h0.size := ⟨_, rfl⟩
  rw [← g3] at A3 D3 st3
  have g_b3 : n0 ≤ b3 := (Nat.le_trans (Nat.le_trans (Nat.le_of_eq OL0.1.symm) OL0.2.1) (Nat.le_of_eq g3.symm))
  have sz_b3 : h0.size ≤ b3 := (Nat.le_trans (Keep.refl h0 []).1 (Nat.le_of_eq g3.symm))
  have KK3 : Keep h0 h3 [] := (Keep.refl h0 []).ext E3
  have OL3 := OL0.ext E3
  have F_id_b3 : Fld Z h3 b3 s27 "id" s11 .null := D3 (Or.inr (wd235 hw)) (ty := (.object s39)) (by decide)
  have F_name_b3 : Fld Z h3 b3 s27 "name" s11 .null := D3 (Or.inr (wd237 hw)) (ty := (.object s39)) (by decide)
  have F_basis_b3 : Fld Z h3 b3 s27 "basis" s9 .null := D3 (Or.inr (wd239 hw)) (ty := (.object s26)) (by decide)
  have F_onlyFor_b3 : Fld Z h3 b3 s27 "onlyFor" s16 .null := D3 (Or.inr (wd241 hw)) (ty := (.object s54)) (by decide)
  have F_chargeFor_b3 : Fld Z h3 b3 s27 s24 s16 .null := D3 (Or.inr (wd243 hw)) (ty := (.object s54)) (by decide)
  have F_prices_b3 : Fld Z h3 b3 s27 "prices" s15 .null := D3 (Or.inr (wd245 hw)) (ty := (.object s52)) (by decide)
  have fc5 := (pr1.ext E3)
  obtain ⟨T6, X6, e6, st6⟩ := gF X3 hx hZ hown (wd234 hw) Via.refl e3 fc5 5 #[rv a1, rv a2] [(.ref b3), (.ref b3)] (hb hby d32_5)
  have fc8 := (pr2.ext E3)
  obtain ⟨T9, X9, e9, st9⟩ := gF X6 hx hZ hown (wd236 hw) Via.refl e6 fc8 9 #[rv a1, rv a2] [(.ref a4), (.ref b3), (.ref b3)] (hb hby d32_9)
  have fc11 := (pr3.ext E3)
  obtain ⟨T12, X12, e12, st12⟩ := gF X9 hx hZ hown (wd238 hw) Via.refl e9 fc11 13 #[rv a1, rv a2] [(.ref a7), (.ref a4), (.ref b3), (.ref b3)] (hb hby d32_13)
  have fc13 := (pr4.ext E3)
  obtain ⟨T14, X14, e14, st14⟩ := gF X12 hx hZ hown (wd240 hw) Via.refl e12 fc13 17 #[rv a1, rv a2] [(.ref w10), (.ref a7), (.ref a4), (.ref b3), (.ref b3)] (hb hby d32_17)
  have fc15 := (pr5.ext E3)
  obtain ⟨T16, X16, e16, st16⟩ := gF X14 hx hZ hown (wd242 hw) Via.refl e14 fc15 21 #[rv a1, rv a2] [.null, (.ref w10), (.ref a7), (.ref a4), (.ref b3), (.ref b3)] (hb hby d32_21)
  have fc23 := (pr6.ext E3)
  have fc24 := (pr7.ext E3)
  have fc25 := (pr8.ext E3)
  have fc26 := (pr10.ext E3)
  have fc27 := (pr11.ext E3)
  have fc28 := (pr12.ext E3)
  obtain ⟨_, T22, L22, X22, hQ22, st22⟩ := own_cN X16 hx hZ hown hml (cw17 hw) (rm19_1 l Z a0 hw b3 a4 a7 w10 a2 a17 w18 a19 k20 w21 h3 n0 OL3 fc23 fc24 fc25 pr9 fc26 fc27 fc28 pr13 A3 F_id_b3 g_b3 F_name_b3 F_basis_b3 F_onlyFor_b3 F_chargeFor_b3 F_prices_b3) e16 b3 25 #[rv a1, rv a2] [(.ref a4), (.ref a7), (.ref w10), .null, .null, (.ref a2)] [(.ref b3)] 1 rfl (hb hby d32_25) (by decide)
  obtain ⟨b22_0, rfl, Nq22, K22, u22_0, u22_1, u22_2, u22_3, u22_4, u22_5, u22_6, u22_7, u22_8, u22_9⟩ := hQ22
  have KK22 : Keep h0 T22.heap [] := KK3.trans K22 (allS (Or.inr sz_b3) all0)
  have sz_b22_0 : h0.size ≤ b22_0 := Nat.le_trans KK3.1 u22_0
  have N22 := Fr.app N0 Nq22
  have nz29 := nl F_prices_b3.lt u22_0
  have fc30 := (A3.keep K22)
  refine ⟨some (.ref b3), _, _, _, _, _, X22, rfl, by decide, nofun, fun fs hr => ?_, ?_⟩
  · refine st3 _ ?_
    show SS p e below T3 m 3 #[rv a1, rv a2] [(.ref b3)] _
    refine XS.dup X3.here hx rfl (hb hby d32_3) rfl rfl ?_
    refine XS.aloadN X3.here hx rfl (hb hby d32_4) rfl rfl ?_
    refine st6 _ ?_
    refine XS.aloadN X6.here hx rfl (hb hby d32_8) rfl rfl ?_
    refine st9 _ ?_
    refine XS.aloadN X9.here hx rfl (hb hby d32_12) rfl rfl ?_
    refine st12 _ ?_
    refine XS.aloadN X12.here hx rfl (hb hby d32_16) rfl rfl ?_
    refine st14 _ ?_
    refine XS.aloadN X14.here hx rfl (hb hby d32_20) rfl rfl ?_
    show SS p e below T14 m 21 #[rv a1, rv a2] [(.ref a1), .null, (.ref w10), (.ref a7), (.ref a4), (.ref b3), (.ref b3)] _
    refine st16 _ ?_
    refine XS.aloadN X16.here hx rfl (hb hby d32_24) rfl rfl ?_
    refine st22 _ ?_
    show SS p e below T22 m 28 #[rv a1, rv a2] [(.ref b3)] _
    exact own_retR X22 hx hret rfl rfl rfl (hb hby d32_28) hr
  · exact ⟨b3, b22_0, rfl, N22, KK22, sz_b3, sz_b22_0, nz29, fc30, u22_1, u22_2, u22_3, u22_4, u22_5, u22_6, u22_7, u22_8, u22_9⟩
theorem ef_15_41 (m : MethodId) (x0 : Addr) (x1 : Addr) (x2 : Addr) : entryFrame m #[(.ref x0), (.ref x1), (.ref x2), (.int (1 : Int32))] 4 = mkF m 0 #[.val (.ref x0), .val (.ref x1), .val (.ref x2), .val (.int (1 : Int32))] [] := by first | (simp [entryFrame, mkF, argsToLocals, Value.category]; done) | rfl
theorem rm15_1 (l : Launch) (Z : State) (a0 : Array Value) (hw : HW a0 Z) (a1 a2 a3 a4 : Addr) (k5 : ClassId) (h0 : Heap) (n0 : Nat) (OL0 : Old Z n0 h0) (pr1 : Arv Z h0 a3 k5 (.object s37) (10 : Int32) [(.ref a4), .null, .null, .null, .null, .null, .null, .null, .null, .null] .null) (pr2 : n0 ≤ a3) (pr3 : Ovr Z k5 s37) (pr4 : Exa Z h0 a2 s29) (pr5 : Exa Z h0 a1 s44) (pr6 : Fld Z h0 a1 s44 "size" "I" (.int (1 : Int32))) (pr7 : a1 ≠ a3) (pr8 : n0 ≤ a1) (pr9 : Fld Z h0 a1 s43 s57 "I" (.int (2 : Int32))) (pr10 : Fld Z h0 a1 s44 s32 s21 (.ref a3)) (pr11 : a3 ≠ a1) :
    MF l Z mn15 jdk_38_method_24_code 4 none ⟨0, 0, 0, 0⟩ #[(.ref a1), (.ref a2), (.ref a3), (.int (1 : Int32))] h0 (fun v h L => v = none ∧ Fr n0 L ∧ Keep h0 h [a3, a1] ∧ Arv Z h a3 k5 (.object s37) (10 : Int32) [(.ref a4), (.ref a2), .null, .null, .null, .null, .null, .null, .null, .null] .null ∧ Fld Z h a1 s44 "size" "I" (.int (2 : Int32)) ∧ Fld Z h a1 s43 s57 "I" (.int (2 : Int32)) ∧ Fld Z h a1 s44 s32 s21 (.ref a3)) := by
  refine own_start (plainFor_of_name pn_6) (fun m => (ef_15_41 m a1 a2 a3)) ?_
  intro p e s m below meth c s₁ hZ hx hby hml hown hnm hret X0 e0
  have N0 := Fr.nil n0
  obtain ⟨cl6, Ar6, -, Sz6, Nn6, -, -⟩ := id pr1
  obtain ⟨cl7, Ar7, q7, S7, M7, Hs7, G7⟩ := id pr1
  have hin7 : ¬ ((1 : Int32) < 0 ∨ cl7.slots.size ≤ ((1 : Int32)).toNatClampNeg) := inb_of S7 ⟨by decide, by decide⟩
  obtain ⟨T8, h8, X8, e8, W8, st8⟩ := stR X0 hx hZ e0 Ar7 (j := (1 : Int32)) hin7 rfl (Sto.ofV Ar7 q7 pr3 (Ins.of_exa pr4 (wd140 hw))) (g := (mkF m 14 #[rv a1, rv a2, rv a3, iv (1 : Int32)] [(.ref a2), (.int (1 : Int32)), (.ref a3)])) rfl rfl (hb hby d15_14)
  have V8 : Arv Z h8 a3 k5 (.object s37) (10 : Int32) [(.ref a4), (.ref a2), .null, .null, .null, .null, .null, .null, .null, .null] .null := Arv.set Ar7 q7 S7 M7 Hs7 G7 rfl W8 1 rfl (Nat.le_of_ble_eq_true rfl)
  have KK8 : Keep h0 h8 [a3, a1] := (Keep.refl h0 [a3, a1]).wr W8 (Or.inl (List.mem_of_getElem? (i := 0) rfl))
  have N8 := Fr.snoc X8 N0 pr2
  have fc9 := (pr5.wr W8)
  have fc10 := (pr6.other W8 (Or.inl pr7))
  obtain ⟨T11, h11, X11, e11, W11, st11⟩ := putF X8 hx hZ hown (host := "") (Or.inl (wd117 hw)) Via.refl e8 fc10 fc9 (Or.inl (wd118 hw)) (wd84 hw) (ty := .int) (by decide) rfl rfl (g := (mkF m 19 #[rv a1, rv a2, rv a3, iv (1 : Int32)] [(.int (2 : Int32)), (.ref a1)])) rfl rfl (hb hby d15_19)
  have Fw11 := fc10.same W11
  have KK11 : Keep h0 h11 [a3, a1] := KK8.wr W11 (Or.inl (List.mem_of_getElem? (i := 1) rfl))
  have N11 := Fr.snoc X11 N8 pr8
  have fc12 := ((pr9.other W8 (Or.inl pr7)).other W11 (Or.inr (slot_ne (Or.inl (wd103 hw)) (Or.inl (wd118 hw)) (by decide) (t := .int) (t' := .int) (by decide) (by decide))))
  have fc13 := ((pr10.other W8 (Or.inl pr7)).other W11 (Or.inr (slot_ne (Or.inl (wd106 hw)) (Or.inl (wd118 hw)) (by decide) (t := (.array (.object s37))) (t' := .int) (by decide) (by decide))))
  have fc14 := (V8.other W11 pr11)
  refine ⟨none, _, _, _, _, _, X11, e11, by decide, fun _ => rfl, fun fs hr => ?_, ?_⟩
  · refine XS.iloadN X0.here hx rfl (hb hby d15_0) rfl ?_
    show SS p e below s₁ m 1 #[rv a1, rv a2, rv a3, iv (1 : Int32)] [(.int (1 : Int32))] _
    refine XS.aloadN X0.here hx rfl (hb hby d15_1) rfl rfl ?_
    refine X0.arraylength hx (by rw [e0]; exact Ar6.1) (State.isArrayOf_alike hZ.alike Ar6.2.1) (g := (mkF m 2 #[rv a1, rv a2, rv a3, iv (1 : Int32)] [(.ref a3), (.int (1 : Int32))])) rfl rfl (hb hby d15_2) _ ?_
    rw [len_of Sz6 Nn6]
    refine XS.icmpYes X0.here hx rfl (pc0 := 3) (pc' := 11) rfl (hb hby d15_3) rfl (feq (by decide : ¬ ((1 : Int32) = (10 : Int32)))).2 (by decide) (by decide) ?_
    refine XS.aloadN X0.here hx rfl (hb hby d15_11) rfl rfl ?_
    refine XS.iloadN X0.here hx rfl (hb hby d15_12) rfl ?_
    refine XS.aloadN X0.here hx rfl (hb hby d15_13) rfl rfl ?_
    refine st8 _ ?_
    refine XS.aloadN X8.here hx rfl (hb hby d15_15) rfl rfl ?_
    refine XS.iloadN X8.here hx rfl (hb hby d15_16) rfl ?_
    refine XS.iconst X8.here hx rfl (hb hby d15_17) ?_
    show SS p e below T8 m 18 #[rv a1, rv a2, rv a3, iv (1 : Int32)] [(.int (1 : Int32)), (.int (1 : Int32)), (.ref a1)] _
    refine XS.iadd X8.here hx rfl (hb hby d15_18) rfl ?_
    refine st11 _ ?_
    show SS p e below T11 m 22 #[rv a1, rv a2, rv a3, iv (1 : Int32)] [] _
    exact X11.returnOut hx hret (hb hby d15_22) hr
  · exact ⟨rfl, N11, KK11, fc14, Fw11, fc12, fc13⟩
theorem rm14_1 (l : Launch) (Z : State) (a0 : Array Value) (hw : HW a0 Z) (a1 a2 a5 a10 : Addr) (k11 : ClassId) (h0 : Heap) (n0 : Nat) (OL0 : Old Z n0 h0) (pr1 : Fld Z h0 a1 s43 s57 "I" (.int (1 : Int32))) (pr2 : Exa Z h0 a1 s44) (pr3 : n0 ≤ a1) (pr4 : Fld Z h0 a1 s44 s32 s21 (.ref a5)) (pr5 : Fld Z h0 a1 s44 "size" "I" (.int (1 : Int32))) (pr6 : Arv Z h0 a5 k11 (.object s37) (10 : Int32) [(.ref a10), .null, .null, .null, .null, .null, .null, .null, .null, .null] .null) (pr7 : a5 ≠ a1) (pr8 : n0 ≤ a5) (pr9 : Ovr Z k11 s37) (pr10 : Exa Z h0 a2 s29) (pr11 : a1 ≠ a5) :
    MF l Z mn14 jdk_38_method_25_code 2 (some .boolean) ⟨1, 0, 0, 15⟩ #[(.ref a1), (.ref a2)] h0 (fun v h L => v = some (.int (1 : Int32)) ∧ Fr n0 L ∧ Keep h0 h [a1, a5] ∧ Fld Z h a1 s43 s57 "I" (.int (2 : Int32)) ∧ Fld Z h a1 s44 s32 s21 (.ref a5) ∧ Fld Z h a1 s44 "size" "I" (.int (2 : Int32)) ∧ Arv Z h a5 k11 (.object s37) (10 : Int32) [(.ref a10), (.ref a2), .null, .null, .null, .null, .null, .null, .null, .null] .null) := by
  refine own_start (plainFor_of_name pn_6) (fun m => (ef_14_21 m a1 a2)) ?_
  intro p e s m below meth c s₁ hZ hx hby hml hown hnm hret X0 e0
  have N0 := Fr.nil n0
  obtain ⟨T3, X3, e3, st3⟩ := gF X0 hx hZ hown (wd115 hw) (Via.of (wd116 hw)) e0 pr1 2 #[rv a1, rv a2] [(.ref a1)] (hb hby d14_2)
  obtain ⟨T4, h4, X4, e4, W4, st4⟩ := putF X3 hx hZ hown (host := "") (Or.inl (wd115 hw)) (Via.of (wd116 hw)) e3 pr1 pr2 (Or.inl (wd103 hw)) (wd84 hw) (ty := .int) (by decide) rfl rfl (g := (mkF m 7 #[rv a1, rv a2] [(.int (2 : Int32)), (.ref a1)])) rfl rfl (hb hby d14_7)
  have Fw4 := pr1.same W4
  have KK4 : Keep h0 h4 [a1, a5] := (Keep.refl h0 [a1, a5]).wr W4 (Or.inl (List.mem_of_getElem? (i := 0) rfl))
  have OL4 := OL0.wr W4 pr3
  have N4 := Fr.snoc X4 N0 pr3
  have fc6 := (pr4.other W4 (Or.inr (slot_ne (Or.inl (wd106 hw)) (Or.inl (wd103 hw)) (by decide) (t := (.array (.object s37))) (t' := .int) (by decide) (by decide))))
  obtain ⟨T7, X7, e7, st7⟩ := gF X4 hx hZ hown (wd105 hw) Via.refl e4 fc6 13 #[rv a1, rv a2] [(.ref a2), (.ref a1)] (hb hby d14_13)
  have fc8 := (pr5.other W4 (Or.inr (slot_ne (Or.inl (wd118 hw)) (Or.inl (wd103 hw)) (by decide) (t := .int) (t' := .int) (by decide) (by decide))))
  obtain ⟨T9, X9, e9, st9⟩ := gF X7 hx hZ hown (wd117 hw) Via.refl e7 fc8 17 #[rv a1, rv a2] [(.ref a5), (.ref a2), (.ref a1)] (hb hby d14_17)
  have fc13 := (pr6.other W4 pr7)
  have fc14 := (pr10.wr W4)
  have fc15 := (pr2.wr W4)
  obtain ⟨_, T12, L12, X12, hQ12, st12⟩ := own_cP X9 hx hZ hown hml (cw22 hw) (rm15_1 l Z a0 hw a1 a2 a5 a10 k11 h4 n0 OL4 fc13 pr8 pr9 fc14 fc15 fc8 pr11 pr3 Fw4 fc6 pr7) e9 fc15 20 #[rv a1, rv a2] [(.ref a2), (.ref a5), (.int (1 : Int32))] [] 0 rfl (hb hby d14_20) (by decide)
  obtain ⟨rfl, Nq12, K12, u12_0, u12_1, u12_2, u12_3⟩ := hQ12
  have KK12 : Keep h0 T12.heap [a1, a5] := KK4.trans K12 (allS (Or.inl (List.mem_of_getElem? (i := 1) rfl)) (allS (Or.inl (List.mem_of_getElem? (i := 0) rfl)) all0))
  have N12 := Fr.app N4 Nq12
  refine ⟨some (.int (1 : Int32)), _, _, _, _, _, X12, rfl, by decide, nofun, fun fs hr => ?_, ?_⟩
  · refine XS.aloadN X0.here hx rfl (hb hby d14_0) rfl rfl ?_
    show SS p e below s₁ m 1 #[rv a1, rv a2] [(.ref a1)] _
    refine XS.dup X0.here hx rfl (hb hby d14_1) rfl rfl ?_
    refine st3 _ ?_
    refine XS.iconst X3.here hx rfl (hb hby d14_5) ?_
    refine XS.iadd X3.here hx rfl (hb hby d14_6) rfl ?_
    refine st4 _ ?_
    refine XS.aloadN X4.here hx rfl (hb hby d14_10) rfl rfl ?_
    refine XS.aloadN X4.here hx rfl (hb hby d14_11) rfl rfl ?_
    refine XS.aloadN X4.here hx rfl (hb hby d14_12) rfl rfl ?_
    refine st7 _ ?_
    refine XS.aloadN X7.here hx rfl (hb hby d14_16) rfl rfl ?_
    show SS p e below T7 m 17 #[rv a1, rv a2] [(.ref a1), (.ref a5), (.ref a2), (.ref a1)] _
    refine st9 _ ?_
    refine st12 _ ?_
    refine XS.iconst X12.here hx rfl (hb hby d14_23) ?_
    show SS p e below T12 m 24 #[rv a1, rv a2] [(.int (1 : Int32))] _
    exact retN X12 hx (t := .boolean) hret (by simp) (hb hby d14_24) hr
  · exact ⟨rfl, N12, KK12, u12_2, u12_3, u12_1, u12_0⟩
theorem rm40_1 (l : Launch) (Z : State) (a0 : Array Value) (hw : HW a0 Z) (a1 a2 : Addr) (h0 : Heap) (n0 : Nat) (OL0 : Old Z n0 h0) (pr1 : Fld Z h0 a1 s27 "prices" s15 (.ref a2)) :
    MF l Z mn40 prog_22_method_14_code 1 (some (.object s52)) ⟨0, 0, 0, 0⟩ #[(.ref a1)] h0 (QR n0 h0 (some (.ref a2))) := by
  refine own_start (plainFor_of_name pn_10) (fun m => (ef_40_28 m a1)) ?_
  intro p e s m below meth c s₁ hZ hx hby hml hown hnm hret X0 e0
  have N0 := Fr.nil n0
  obtain ⟨T3, X3, e3, st3⟩ := gF X0 hx hZ hown (wd244 hw) Via.refl e0 pr1 1 #[rv a1] [] (hb hby d40_1)
  refine ⟨some (.ref a2), _, _, _, _, _, X3, e3, by decide, nofun, fun fs hr => ?_, ?_⟩
  · refine XS.aloadN X0.here hx rfl (hb hby d40_0) rfl rfl ?_
    show SS p e below s₁ m 1 #[rv a1] [(.ref a1)] _
    refine st3 _ ?_
    show SS p e below T3 m 4 #[rv a1] [(.ref a2)] _
    exact own_retR X3 hx hret rfl rfl rfl (hb hby d40_4) hr
  · exact ⟨rfl, N0, rfl⟩
theorem d43_0 : DC cb43 0 (.aload_n 0) 1 := by decide +kernel
theorem d43_1 : DC cb43 1 (.getfield 24) 3 := by decide +kernel
theorem d43_4 : DC cb43 4 (.getstatic 19) 3 := by decide +kernel
theorem d43_7 : DC cb43 7 (.if_acmp .eq 7) 3 := by decide +kernel
theorem d43_14 : DC cb43 14 (.iconst 1) 1 := by decide +kernel
theorem d43_15 : DC cb43 15 (.ireturn) 1 := by decide +kernel
theorem ef_43_42 (m : MethodId) (x0 : Addr) : entryFrame m #[(.ref x0)] 1 = mkF m 0 #[.val (.ref x0)] [] := by first | (simp [entryFrame, mkF, argsToLocals, Value.category]; done) | rfl
theorem rm43_0 (l : Launch) (Z : State) (a0 : Array Value) (hw : HW a0 Z) (a1 w2 : Addr) (h0 : Heap) (n0 : Nat) (OL0 : Old Z n0 h0) (pr1 : Fld Z h0 a1 s50 "e1" s10 (.ref w2)) (pr2 : Sta Z Z.heap s47 "EMPTY" s10 (.ref w2)) :
    MF l Z mn43 jdk_44_method_3_code 1 (some .int) ⟨0, 0, 0, 0⟩ #[(.ref a1)] h0 (QR n0 h0 (some (.int (1 : Int32)))) := by
  refine own_start (plainFor_of_name pn_16) (fun m => (ef_43_42 m a1)) ?_
  intro p e s m below meth c s₁ hZ hx hby hml hown hnm hret X0 e0
  have N0 := Fr.nil n0
  obtain ⟨T3, X3, e3, st3⟩ := gF X0 hx hZ hown (wd232 hw) Via.refl e0 pr1 1 #[rv a1] [] (hb hby d43_1)
  obtain ⟨T4, X4, e4, st4⟩ := getS2 X3 hx hZ hown (Or.inr (wd231 hw)) Via.refl e3 (pr2.ext OL0.2) (g := (mkF m 4 #[rv a1] [(.ref w2)])) rfl (hb hby d43_4)
  refine ⟨some (.int (1 : Int32)), _, _, _, _, _, X4, e4, by decide, nofun, fun fs hr => ?_, ?_⟩
  · refine XS.aloadN X0.here hx rfl (hb hby d43_0) rfl rfl ?_
    show SS p e below s₁ m 1 #[rv a1] [(.ref a1)] _
    refine st3 _ ?_
    refine st4 _ ?_
    refine Jvm.RoadKit.acmp (g := (mkF m 7 #[rv a1] [(.ref w2), (.ref w2)])) X4 hx rfl rfl rfl (pc0 := 7) (pc' := 14) (same := true) rfl (hb hby d43_7) rfl (decide_eq_true rfl) (by decide) (by decide) ?_
    refine XS.iconst X4.here hx rfl (hb hby d43_14) ?_
    show SS p e below T4 m 15 #[rv a1] [(.int (1 : Int32))] _
    exact retI X4 hx hret (hb hby d43_15) hr
  · exact ⟨rfl, N0, rfl⟩
theorem cw44 {a0 Z} (hw : HW a0 Z) : CI a0 Z s28 20 (⟨s52, "size", "()I"⟩ : MethodName) mn43 s50 0 (.code mn43 jdk_44_method_3_code 1 (some .int)) :=
  ⟨wx hw 295 rfl, wx hw 296 rfl, ⟨wx hw 297 rfl, by first | rfl | simp [Cond.onTables, Cond.keepsFace, Cond.keeps, Cond.steady]⟩, wx hw 307 rfl, wx hw 308 rfl, wx hw 309 rfl, wx hw 310 rfl, wx hw 311 rfl, wx hw 312 rfl, wx hw 206 rfl, by decide, _, _, pd_21, rfl⟩
theorem d41_23 : DC cb41 23 (.aload_n 0) 1 := by decide +kernel
theorem d41_24 : DC cb41 24 (.iconst 0) 1 := by decide +kernel
theorem d41_25 : DC cb41 25 (.invokeinterface 26 2) 5 := by decide +kernel
theorem d44_0 : DC cb44 0 (.iload_n 1) 1 := by decide +kernel
theorem d44_1 : DC cb44 1 (.ifCond .ne 8) 3 := by decide +kernel
theorem d44_4 : DC cb44 4 (.aload_n 0) 1 := by decide +kernel
theorem d44_5 : DC cb44 5 (.getfield 13) 3 := by decide +kernel
theorem d44_8 : DC cb44 8 (.areturn) 1 := by decide +kernel
theorem ef_44_43 (m : MethodId) (x0 : Addr) : entryFrame m #[(.ref x0), (.int (0 : Int32))] 2 = mkF m 0 #[.val (.ref x0), .val (.int (0 : Int32))] [] := by first | (simp [entryFrame, mkF, argsToLocals, Value.category]; done) | rfl
theorem rm44_0 (l : Launch) (Z : State) (a0 : Array Value) (hw : HW a0 Z) (a1 a2 : Addr) (h0 : Heap) (n0 : Nat) (OL0 : Old Z n0 h0) (pr1 : Fld Z h0 a1 s50 "e0" s10 (.ref a2)) :
    MF l Z mn44 jdk_44_method_5_code 2 (some (.object s37)) ⟨0, 0, 0, 0⟩ #[(.ref a1), (.int (0 : Int32))] h0 (QR n0 h0 (some (.ref a2))) := by
  refine own_start (plainFor_of_name pn_16) (fun m => (ef_44_43 m a1)) ?_
  intro p e s m below meth c s₁ hZ hx hby hml hown hnm hret X0 e0
  have N0 := Fr.nil n0
  obtain ⟨T3, X3, e3, st3⟩ := gF X0 hx hZ hown (wd229 hw) Via.refl e0 pr1 5 #[rv a1, iv (0 : Int32)] [] (hb hby d44_5)
  refine ⟨some (.ref a2), _, _, _, _, _, X3, e3, by decide, nofun, fun fs hr => ?_, ?_⟩
  · refine XS.iloadN X0.here hx rfl (hb hby d44_0) rfl ?_
    show SS p e below s₁ m 1 #[rv a1, iv (0 : Int32)] [(.int (0 : Int32))] _
    refine XS.ifNo X0.here hx rfl (hb hby d44_1) rfl ((if0 _ _).trans (teq (rfl : (0 : Int32) = (0 : Int32))).2) ?_
    refine XS.aloadN X0.here hx rfl (hb hby d44_4) rfl rfl ?_
    refine st3 _ ?_
    show SS p e below T3 m 8 #[rv a1, iv (0 : Int32)] [(.ref a2)] _
    exact own_retR X3 hx hret rfl rfl rfl (hb hby d44_8) hr
  · exact ⟨rfl, N0, rfl⟩
theorem pd_29 : parseMethodDescriptor "(I)Ljava/lang/Object;" = some ⟨[.int], some (.object "java/lang/Object")⟩ := by decide +kernel
theorem cw45 {a0 Z} (hw : HW a0 Z) : CI a0 Z s28 26 (⟨s52, "get", "(I)Ljava/lang/Object;"⟩ : MethodName) mn44 s50 1 (.code mn44 jdk_44_method_5_code 2 (some (.object s37))) :=
  ⟨wx hw 313 rfl, wx hw 314 rfl, ⟨wx hw 315 rfl, by first | rfl | simp [Cond.onTables, Cond.keepsFace, Cond.keeps, Cond.steady]⟩, wx hw 316 rfl, wx hw 317 rfl, wx hw 318 rfl, wx hw 319 rfl, wx hw 311 rfl, wx hw 320 rfl, wx hw 206 rfl, by decide, _, _, pd_29, rfl⟩
theorem d41_30 : DC cb41 30 (.iload_n 1) 1 := by decide +kernel
theorem d41_31 : DC cb41 31 (.iconst 0) 1 := by decide +kernel
theorem d41_32 : DC cb41 32 (.aload_n 2) 1 := by decide +kernel
theorem d41_33 : DC cb41 33 (.aload_n 3) 1 := by decide +kernel
theorem d41_34 : DC cb41 34 (.invokestatic 10) 3 := by decide +kernel
theorem d41_37 : DC cb41 37 (.if_acmp .eq 5) 3 := by decide +kernel
theorem rm41_1 (l : Launch) (Z : State) (a0 : Array Value) (hw : HW a0 Z) (a1 : Addr) (p2 : Int32) (a3 a4 w5 a7 : Addr) (h0 : Heap) (n0 : Nat) (OL0 : Old Z n0 h0) (pr1 : (p2 &&& (3 : Int32)) = (1 : Int32)) (pr2 : Fld Z h0 a1 s50 "e1" s10 (.ref w5)) (pr3 : Sta Z Z.heap s47 "EMPTY" s10 (.ref w5)) (pr4 : Exa Z h0 a1 s50) (pr5 : Fld Z h0 a1 s50 "e0" s10 (.ref a7)) (pr6 : (if (((p2.toUInt32 >>> ((2 : Int32) &&& 31).toUInt32).toInt32) &&& (1 : Int32)) = (0 : Int32) then a3 else a4) = a7) :
    MF l Z mn41 method_4_code 5 (some .boolean) ⟨1, 0, 0, 16⟩ #[(.ref a1), (.int p2), (.ref a3), (.ref a4)] h0 (QR n0 h0 (some (.int (1 : Int32)))) := by
  refine own_start (plainFor_of_name pn_7) (fun m => (ef_41_30 m a1 p2 a3 a4)) ?_
  intro p e s m below meth c s₁ hZ hx hby hml hown hnm hret X0 e0
  have N0 := Fr.nil n0
  obtain ⟨_, T6, L6, X6, hQ6, st6⟩ := own_cI X0 hx hZ hown hml (cw44 hw) (rm43_0 l Z a0 hw a1 w5 h0 n0 OL0 pr2 pr3) e0 pr4 6 #[rv a1, iv p2, rv a3, rv a4, iv (1 : Int32)] [] [] 0 rfl (hb hby d41_6) (by decide)
  obtain ⟨rfl, Nq6, ec6⟩ := hQ6
  have N6 := Fr.app N0 Nq6
  obtain ⟨_, T8, L8, X8, hQ8, st8⟩ := own_cI X6 hx hZ hown hml (cw45 hw) (rm44_0 l Z a0 hw a1 a7 h0 n0 OL0 pr5) ec6 pr4 25 #[rv a1, iv p2, rv a3, rv a4, iv (1 : Int32)] [(.int (0 : Int32))] [] 0 rfl (hb hby d41_25) (by decide)
  obtain ⟨rfl, Nq8, ec8⟩ := hQ8
  have N8 := Fr.app N6 Nq8
  obtain ⟨_, T9, L9, X9, hQ9, st9⟩ := own_cS X8 hx hZ hown hml (cw33 hw) (mg_pick0 l Z a0 hw p2 a3 a4 a7 h0 n0 OL0 pr6) ec8 34 #[rv a1, iv p2, rv a3, rv a4, iv (1 : Int32)] [(.int p2), (.int (0 : Int32)), (.ref a3), (.ref a4)] [(.ref a7)] 1 rfl (hb hby d41_34) (by decide)
  obtain ⟨rfl, Nq9, ec9⟩ := hQ9
  have N9 := Fr.app N8 Nq9
  refine ⟨some (.int (1 : Int32)), _, _, _, _, _, X9, ec9, by decide, nofun, fun fs hr => ?_, ?_⟩
  · refine XS.iloadN X0.here hx rfl (hb hby d41_0) rfl ?_
    show SS p e below s₁ m 1 #[rv a1, iv p2, rv a3, rv a4, uu] [(.int p2)] _
    refine XS.iconst X0.here hx rfl (hb hby d41_1) ?_
    refine XS.iand X0.here hx rfl (hb hby d41_2) rfl ?_
    show SS p e below s₁ m 3 #[rv a1, iv p2, rv a3, rv a4, uu] [(.int (p2 &&& (3 : Int32)))] _
    rw [pr1]
    refine XS.istore X0.here hx rfl (hb hby d41_3) rfl (l' := #[rv a1, iv p2, rv a3, rv a4, iv (1 : Int32)]) rfl ?_
    refine XS.aloadN X0.here hx rfl (hb hby d41_5) rfl rfl ?_
    refine st6 _ ?_
    refine XS.iload X6.here hx rfl (hb hby d41_11) rfl ?_
    refine XS.icmpYes X6.here hx rfl (pc0 := 13) (pc' := 18) rfl (hb hby d41_13) rfl (teq (rfl : (1 : Int32) = (1 : Int32))).1 (by decide) (by decide) ?_
    refine XS.iload X6.here hx rfl (hb hby d41_18) rfl ?_
    refine XS.ifNo X6.here hx rfl (hb hby d41_20) rfl ((if0 _ _).trans (tlt (by decide : (0 : Int32) < (1 : Int32))).2.2.2) ?_
    refine XS.aloadN X6.here hx rfl (hb hby d41_23) rfl rfl ?_
    show SS p e below T6 m 24 #[rv a1, iv p2, rv a3, rv a4, iv (1 : Int32)] [(.ref a1)] _
    refine XS.iconst X6.here hx rfl (hb hby d41_24) ?_
    refine st8 _ ?_
    refine XS.iloadN X8.here hx rfl (hb hby d41_30) rfl ?_
    refine XS.iconst X8.here hx rfl (hb hby d41_31) ?_
    refine XS.aloadN X8.here hx rfl (hb hby d41_32) rfl rfl ?_
    refine XS.aloadN X8.here hx rfl (hb hby d41_33) rfl rfl ?_
    refine st9 _ ?_
    refine Jvm.RoadKit.acmp (g := (mkF m 37 #[rv a1, iv p2, rv a3, rv a4, iv (1 : Int32)] [(.ref a7), (.ref a7)])) X9 hx rfl rfl rfl (pc0 := 37) (pc' := 42) (same := true) rfl (hb hby d41_37) rfl (decide_eq_true rfl) (by decide) (by decide) ?_
    refine XS.iload X9.here hx rfl (hb hby d41_42) rfl ?_
    refine XS.iconst X9.here hx rfl (hb hby d41_44) ?_
    show SS p e below T9 m 45 #[rv a1, iv p2, rv a3, rv a4, iv (1 : Int32)] [(.int (1 : Int32)), (.int (1 : Int32))] _
    refine XS.icmpYes X9.here hx rfl (pc0 := 45) (pc' := 67) rfl (hb hby d41_45) rfl (flt (by decide : ¬ ((1 : Int32) < (1 : Int32)))).2.2.2 (by decide) (by decide) ?_
    refine XS.iload X9.here hx rfl (hb hby d41_67) rfl ?_
    refine XS.iconst X9.here hx rfl (hb hby d41_69) ?_
    refine XS.icmpYes X9.here hx rfl (pc0 := 70) (pc' := 92) rfl (hb hby d41_70) rfl (flt (by decide : ¬ ((2 : Int32) < (1 : Int32)))).2.2.2 (by decide) (by decide) ?_
    refine XS.iconst X9.here hx rfl (hb hby d41_92) ?_
    show SS p e below T9 m 93 #[rv a1, iv p2, rv a3, rv a4, iv (1 : Int32)] [(.int (1 : Int32))] _
    exact retN X9 hx (t := .boolean) hret (by simp) (hb hby d41_93) hr
  · exact ⟨rfl, N9, rfl⟩
theorem d9_35 : DC cb9 35 (.aload 4) 2 := by decide +kernel
theorem d9_37 : DC cb9 37 (.iload_n 0) 1 := by decide +kernel
theorem d9_38 : DC cb9 38 (.iconst 1) 1 := by decide +kernel
theorem d9_39 : DC cb9 39 (.aload_n 1) 1 := by decide +kernel
theorem d9_40 : DC cb9 40 (.aload_n 2) 1 := by decide +kernel
theorem d9_41 : DC cb9 41 (.invokestatic 10) 3 := by decide +kernel
theorem ef_13_44 (m : MethodId) (x0 : Int32) (x2 : Addr) (x3 : Addr) : entryFrame m #[(.int x0), (.int (1 : Int32)), (.ref x2), (.ref x3)] 4 = mkF m 0 #[.val (.int x0), .val (.int (1 : Int32)), .val (.ref x2), .val (.ref x3)] [] := by first | (simp [entryFrame, mkF, argsToLocals, Value.category]; done) | rfl
theorem rm13_2 (l : Launch) (Z : State) (a0 : Array Value) (hw : HW a0 Z) (p1 : Int32) (a2 a3 : Addr) (h0 : Heap) (n0 : Nat) (OL0 : Old Z n0 h0) (pr1 : ¬ ((((p1.toUInt32 >>> ((3 : Int32) &&& 31).toUInt32).toInt32) &&& (1 : Int32)) = (0 : Int32))) :
    MF l Z mn13 method_2_code 4 (some (.object s29)) ⟨0, 0, 0, 0⟩ #[(.int p1), (.int (1 : Int32)), (.ref a2), (.ref a3)] h0 (QR n0 h0 (some (.ref a3))) := by
  refine own_start (plainFor_of_name pn_7) (fun m => (ef_13_44 m p1 a2 a3)) ?_
  intro p e s m below meth c s₁ hZ hx hby hml hown hnm hret X0 e0
  have N0 := Fr.nil n0
  refine ⟨some (.ref a3), _, _, _, _, _, X0, e0, by decide, nofun, fun fs hr => ?_, ?_⟩
  · refine XS.iloadN X0.here hx rfl (hb hby d13_0) rfl ?_
    show SS p e below s₁ m 1 #[iv p1, iv (1 : Int32), rv a2, rv a3] [(.int p1)] _
    refine XS.iconst X0.here hx rfl (hb hby d13_1) ?_
    refine XS.iloadN X0.here hx rfl (hb hby d13_2) rfl ?_
    refine XS.iadd X0.here hx rfl (hb hby d13_3) rfl ?_
    refine XS.iushr X0.here hx rfl (hb hby d13_4) rfl ?_
    refine XS.iconst X0.here hx rfl (hb hby d13_5) ?_
    refine XS.iand X0.here hx rfl (hb hby d13_6) rfl ?_
    refine XS.ifYes X0.here hx rfl (pc0 := 7) (pc' := 14) rfl (hb hby d13_7) rfl ((if0 _ _).trans (feq pr1).2) (by decide) (by decide) ?_
    refine XS.aloadN X0.here hx rfl (hb hby d13_14) rfl rfl ?_
    show SS p e below s₁ m 15 #[iv p1, iv (1 : Int32), rv a2, rv a3] [(.ref a3)] _
    exact own_retR X0 hx hret rfl rfl rfl (hb hby d13_15) hr
  · exact ⟨rfl, N0, rfl⟩
theorem rm13_3 (l : Launch) (Z : State) (a0 : Array Value) (hw : HW a0 Z) (p1 : Int32) (a2 a3 : Addr) (h0 : Heap) (n0 : Nat) (OL0 : Old Z n0 h0) (pr1 : (((p1.toUInt32 >>> ((3 : Int32) &&& 31).toUInt32).toInt32) &&& (1 : Int32)) = (0 : Int32)) :
    MF l Z mn13 method_2_code 4 (some (.object s29)) ⟨0, 0, 0, 0⟩ #[(.int p1), (.int (1 : Int32)), (.ref a2), (.ref a3)] h0 (QR n0 h0 (some (.ref a2))) := by
  refine own_start (plainFor_of_name pn_7) (fun m => (ef_13_44 m p1 a2 a3)) ?_
  intro p e s m below meth c s₁ hZ hx hby hml hown hnm hret X0 e0
  have N0 := Fr.nil n0
  refine ⟨some (.ref a2), _, _, _, _, _, X0, e0, by decide, nofun, fun fs hr => ?_, ?_⟩
  · refine XS.iloadN X0.here hx rfl (hb hby d13_0) rfl ?_
    show SS p e below s₁ m 1 #[iv p1, iv (1 : Int32), rv a2, rv a3] [(.int p1)] _
    refine XS.iconst X0.here hx rfl (hb hby d13_1) ?_
    refine XS.iloadN X0.here hx rfl (hb hby d13_2) rfl ?_
    refine XS.iadd X0.here hx rfl (hb hby d13_3) rfl ?_
    refine XS.iushr X0.here hx rfl (hb hby d13_4) rfl ?_
    refine XS.iconst X0.here hx rfl (hb hby d13_5) ?_
    refine XS.iand X0.here hx rfl (hb hby d13_6) rfl ?_
    refine XS.ifNo X0.here hx rfl (hb hby d13_7) rfl ((if0 _ _).trans (teq pr1).2) ?_
    refine XS.aloadN X0.here hx rfl (hb hby d13_10) rfl rfl ?_
    refine XS.goto X0.here hx rfl (pc0 := 11) (pc' := 15) rfl (hb hby d13_11) (by decide) (by decide) ?_
    show SS p e below s₁ m 15 #[iv p1, iv (1 : Int32), rv a2, rv a3] [(.ref a2)] _
    exact own_retR X0 hx hret rfl rfl rfl (hb hby d13_15) hr
  · exact ⟨rfl, N0, rfl⟩
theorem mg_pick1 (l : Launch) (Z : State) (a0 : Array Value) (hw : HW a0 Z) (p1 : Int32) (a2 a3 : Addr) (ax : Addr) (h0 : Heap) (n0 : Nat) (OL0 : Old Z n0 h0) (hx : (if (((p1.toUInt32 >>> ((3 : Int32) &&& 31).toUInt32).toInt32) &&& (1 : Int32)) = (0 : Int32) then a2 else a3) = ax) :
    MF l Z mn13 method_2_code 4 (some (.object s29)) ⟨0, 0, 0, 0⟩ #[(.int p1), (.int (1 : Int32)), (.ref a2), (.ref a3)] h0 (QR n0 h0 (some (.ref ax))) := by
  subst hx
  by_cases hc : (((p1.toUInt32 >>> ((3 : Int32) &&& 31).toUInt32).toInt32) &&& (1 : Int32)) = (0 : Int32)
  · rw [if_pos hc]
    exact rm13_3 l Z a0 hw p1 a2 a3 h0 n0 OL0 hc
  · rw [if_neg hc]
    exact rm13_2 l Z a0 hw p1 a2 a3 h0 n0 OL0 hc
theorem d9_44 : DC cb9 44 (.invokevirtual 16) 3 := by decide +kernel
theorem d9_47 : DC cb9 47 (.pop) 1 := by decide +kernel
theorem rm9_2 (l : Launch) (Z : State) (a0 : Array Value) (hw : HW a0 Z) (p1 : Int32) (a2 a3 w5 a7 : Addr) (k9 : ClassId) (a13 : Addr) (h0 : Heap) (n0 : Nat) (OL0 : Old Z n0 h0) (pr1 : (p1 &&& (3 : Int32)) = (2 : Int32)) (pr2 : Sta Z Z.heap s44 s2 s21 (.ref w5)) (pr3 : (if (((p1.toUInt32 >>> ((2 : Int32) &&& 31).toUInt32).toInt32) &&& (1 : Int32)) = (0 : Int32) then a2 else a3) = a7) (pr4 : Arv Z Z.heap w5 k9 (.object s37) (0 : Int32) [] .null) (pr5 : Exa Z h0 a7 s29) (pr6 : (if (((p1.toUInt32 >>> ((3 : Int32) &&& 31).toUInt32).toInt32) &&& (1 : Int32)) = (0 : Int32) then a2 else a3) = a13) (pr7 : Exa Z h0 a13 s29) :
    MF l Z mn9 method_3_code 5 (some (.object s44)) ⟨5, 2, 13, 69⟩ #[(.int p1), (.ref a2), (.ref a3)] h0 (fun v h L => ∃ b4 : Addr, ∃ b10_0 : Addr, ∃ kx10_0 : ClassId, v = some (.ref b4) ∧ Fr n0 L ∧ Keep h0 h [] ∧ h0.size ≤ b4 ∧ h0.size ≤ b10_0 ∧ b4 ≠ b10_0 ∧ Exa Z h b4 s44 ∧ Fld Z h b4 s43 s57 "I" (.int (2 : Int32)) ∧ Fld Z h b4 s44 s32 s21 (.ref b10_0) ∧ Fld Z h b4 s44 "size" "I" (.int (2 : Int32)) ∧ Arv Z h b10_0 kx10_0 (.object s37) (10 : Int32) [(.ref a7), (.ref a13), .null, .null, .null, .null, .null, .null, .null, .null] .null ∧ Ovr Z kx10_0 s37 ∧ Exa Z h b10_0 s21) := by
  refine own_start (plainFor_of_name pn_7) (fun m => (ef_9_10 m p1 a2 a3)) ?_
  intro p e s m below meth c s₁ hZ hx hby hml hown hnm hret X0 e0
  have N0 := Fr.nil n0
  obtain ⟨T4, h4, X4, e4, E4, A4, D4, -, st4⟩ := newO X0 hx hZ hown (wd83 hw) (wd84 hw) (wd85 hw) e0 (g := (mkF m 4 #[iv p1, rv a2, rv a3, iv (2 : Int32), uu] [])) rfl (hb hby d9_4) (by decide) (by decide)
  obtain ⟨b4, g4⟩ : ∃ z, z = h0.size := ⟨_, rfl⟩
  rw [← g4] at A4 D4 st4
  have g_b4 : n0 ≤ b4 := (Nat.le_trans (Nat.le_trans (Nat.le_of_eq OL0.1.symm) OL0.2.1) (Nat.le_of_eq g4.symm))
  have sz_b4 : h0.size ≤ b4 := (Nat.le_trans (Keep.refl h0 []).1 (Nat.le_of_eq g4.symm))
  have KK4 : Keep h0 h4 [] := (Keep.refl h0 []).ext E4
  have OL4 := OL0.ext E4
  have F_modCount_b4 : Fld Z h4 b4 s43 s57 "I" (.int (0 : Int32)) := D4 (Or.inl (wd103 hw)) (ty := .int) (by decide)
  have F_elementData_b4 : Fld Z h4 b4 s44 s32 s21 .null := D4 (Or.inl (wd106 hw)) (ty := (.array (.object s37))) (by decide)
  have F_size_b4 : Fld Z h4 b4 s44 "size" "I" (.int (0 : Int32)) := D4 (Or.inl (wd118 hw)) (ty := .int) (by decide)
  obtain ⟨_, T6, L6, X6, hQ6, st6⟩ := own_cN X4 hx hZ hown hml (cw9 hw) (rm10_0 l Z a0 hw b4 w5 h4 n0 OL4 A4 F_modCount_b4 g_b4 F_elementData_b4 F_size_b4 pr2) e4 b4 8 #[iv p1, rv a2, rv a3, iv (2 : Int32), uu] [] [(.ref b4)] 1 rfl (hb hby d9_8) (by decide)
  obtain ⟨rfl, Nq6, K6, u6_0, u6_1, u6_2⟩ := hQ6
  have KK6 : Keep h0 T6.heap [] := KK4.trans K6 (allS (Or.inr sz_b4) all0)
  have OL6 := OL4.keep K6 (allS g_b4 all0)
  have N6 := Fr.app N0 Nq6
  obtain ⟨_, T8, L8, X8, hQ8, st8⟩ := own_cS X6 hx hZ hown hml (cw33 hw) (mg_pick0 l Z a0 hw p1 a2 a3 a7 T6.heap n0 OL6 pr3) rfl 23 #[iv p1, rv a2, rv a3, iv (2 : Int32), rv b4] [(.int p1), (.int (0 : Int32)), (.ref a2), (.ref a3)] [(.ref b4)] 1 rfl (hb hby d9_23) (by decide)
  obtain ⟨rfl, Nq8, ec8⟩ := hQ8
  have N8 := Fr.app N6 Nq8
  have fc11 := (A4.keep K6)
  have fc12 := ((pr5.ext E4).keep K6)
  obtain ⟨_, T10, L10, X10, hQ10, st10⟩ := own_cV X8 hx hZ hown hml (cw23 hw) (rm14_0 l Z a0 hw b4 a7 w5 k9 T6.heap n0 OL6 u6_0 fc11 g_b4 u6_1 u6_2 pr4 pr2 fc12) ec8 fc11 26 #[iv p1, rv a2, rv a3, iv (2 : Int32), rv b4] [(.ref a7)] [] 0 rfl (hb hby d9_26) (by decide)
  obtain ⟨b10_0, kx10_0, rfl, Nq10, K10, u10_0, u10_1, u10_2, u10_3, u10_4, u10_5, u10_6⟩ := hQ10
  have KK10 : Keep h0 T10.heap [] := KK6.trans K10 (allS (Or.inr sz_b4) all0)
  have OL10 := OL6.keep K10 (allS g_b4 all0)
  have g_b10_0 : n0 ≤ b10_0 := Nat.le_trans (Nat.le_trans (Nat.le_of_eq OL6.1.symm) OL6.2.1) u10_0
  have sz_b10_0 : h0.size ≤ b10_0 := Nat.le_trans KK6.1 u10_0
  have N10 := Fr.app N8 Nq10
  obtain ⟨_, T14, L14, X14, hQ14, st14⟩ := own_cS X10 hx hZ hown hml (cw33 hw) (mg_pick1 l Z a0 hw p1 a2 a3 a13 T10.heap n0 OL10 pr6) rfl 41 #[iv p1, rv a2, rv a3, iv (2 : Int32), rv b4] [(.int p1), (.int (1 : Int32)), (.ref a2), (.ref a3)] [(.ref b4)] 1 rfl (hb hby d9_41) (by decide)
  obtain ⟨rfl, Nq14, ec14⟩ := hQ14
  have N14 := Fr.app N10 Nq14
  have fc16 := (fc11.keep K10)
  have nz17 := nl u6_2.lt u10_0
  have fc18 := (((pr7.ext E4).keep K6).keep K10)
  obtain ⟨_, T15, L15, X15, hQ15, st15⟩ := own_cV X14 hx hZ hown hml (cw23 hw) (rm14_1 l Z a0 hw b4 a13 b10_0 a7 kx10_0 T10.heap n0 OL10 u10_1 fc16 g_b4 u10_2 u10_3 u10_4 (Ne.symm nz17) g_b10_0 u10_5 fc18 nz17) ec14 fc16 44 #[iv p1, rv a2, rv a3, iv (2 : Int32), rv b4] [(.ref a13)] [] 0 rfl (hb hby d9_44) (by decide)
  obtain ⟨rfl, Nq15, K15, u15_0, u15_1, u15_2, u15_3⟩ := hQ15
  have KK15 : Keep h0 T15.heap [] := KK10.trans K15 (allS (Or.inr sz_b4) (allS (Or.inr sz_b10_0) all0))
  have N15 := Fr.app N14 Nq15
  have fc19 := (fc16.keep K15)
  have fc20 := (u10_6.keep K15)
  refine ⟨some (.ref b4), _, _, _, _, _, X15, rfl, by decide, nofun, fun fs hr => ?_, ?_⟩
  · refine XS.iloadN X0.here hx rfl (hb hby d9_0) rfl ?_
    show SS p e below s₁ m 1 #[iv p1, rv a2, rv a3, uu, uu] [(.int p1)] _
    refine XS.iconst X0.here hx rfl (hb hby d9_1) ?_
    refine XS.iand X0.here hx rfl (hb hby d9_2) rfl ?_
    show SS p e below s₁ m 3 #[iv p1, rv a2, rv a3, uu, uu] [(.int (p1 &&& (3 : Int32)))] _
    rw [pr1]
    refine XS.istoreN X0.here hx rfl (hb hby d9_3) rfl (l' := #[iv p1, rv a2, rv a3, iv (2 : Int32), uu]) rfl ?_
    refine st4 _ ?_
    refine XS.dup X4.here hx rfl (hb hby d9_7) rfl rfl ?_
    refine st6 _ ?_
    refine XS.astore X6.here hx rfl (hb hby d9_11) rfl rfl (l' := #[iv p1, rv a2, rv a3, iv (2 : Int32), rv b4]) rfl ?_
    refine XS.iloadN X6.here hx rfl (hb hby d9_13) rfl ?_
    refine XS.ifNo X6.here hx rfl (hb hby d9_14) rfl ((if0 _ _).trans (tlt (by decide : (0 : Int32) < (2 : Int32))).2.2.2) ?_
    refine XS.aload X6.here hx rfl (hb hby d9_17) rfl rfl ?_
    show SS p e below T6 m 19 #[iv p1, rv a2, rv a3, iv (2 : Int32), rv b4] [(.ref b4)] _
    refine XS.iloadN X6.here hx rfl (hb hby d9_19) rfl ?_
    refine XS.iconst X6.here hx rfl (hb hby d9_20) ?_
    refine XS.aloadN X6.here hx rfl (hb hby d9_21) rfl rfl ?_
    refine XS.aloadN X6.here hx rfl (hb hby d9_22) rfl rfl ?_
    refine st8 _ ?_
    refine st10 _ ?_
    refine XS.pop X10.here hx rfl (hb hby d9_29) rfl rfl ?_
    refine XS.iloadN X10.here hx rfl (hb hby d9_30) rfl ?_
    refine XS.iconst X10.here hx rfl (hb hby d9_31) ?_
    refine XS.icmpNo X10.here hx rfl (hb hby d9_32) rfl (tlt (by decide : (1 : Int32) < (2 : Int32))).2.2.2 ?_
    show SS p e below T10 m 35 #[iv p1, rv a2, rv a3, iv (2 : Int32), rv b4] [] _
    refine XS.aload X10.here hx rfl (hb hby d9_35) rfl rfl ?_
    refine XS.iloadN X10.here hx rfl (hb hby d9_37) rfl ?_
    refine XS.iconst X10.here hx rfl (hb hby d9_38) ?_
    refine XS.aloadN X10.here hx rfl (hb hby d9_39) rfl rfl ?_
    refine XS.aloadN X10.here hx rfl (hb hby d9_40) rfl rfl ?_
    refine st14 _ ?_
    refine st15 _ ?_
    refine XS.pop X15.here hx rfl (hb hby d9_47) rfl rfl ?_
    refine XS.iloadN X15.here hx rfl (hb hby d9_48) rfl ?_
    refine XS.iconst X15.here hx rfl (hb hby d9_49) ?_
    show SS p e below T15 m 50 #[iv p1, rv a2, rv a3, iv (2 : Int32), rv b4] [(.int (2 : Int32)), (.int (2 : Int32))] _
    refine XS.icmpYes X15.here hx rfl (pc0 := 50) (pc' := 66) rfl (hb hby d9_50) rfl (flt (by decide : ¬ ((2 : Int32) < (2 : Int32)))).2.2.2 (by decide) (by decide) ?_
    refine XS.aload X15.here hx rfl (hb hby d9_66) rfl rfl ?_
    show SS p e below T15 m 68 #[iv p1, rv a2, rv a3, iv (2 : Int32), rv b4] [(.ref b4)] _
    exact own_retR X15 hx hret rfl rfl rfl (hb hby d9_68) hr
  · exact ⟨b4, b10_0, kx10_0, rfl, N15, KK15, sz_b4, sz_b10_0, nz17, fc19, u15_0, u15_1, u15_2, u15_3, u10_5, fc20⟩
theorem rm22_2 (l : Launch) (Z : State) (a0 : Array Value) (hw : HW a0 Z) (a1 : Addr) (h0 : Heap) (n0 : Nat) (OL0 : Old Z n0 h0) (pr1 : Fld Z h0 a1 s44 "size" "I" (.int (2 : Int32))) :
    MF l Z mn22 jdk_38_method_9_code 1 (some .boolean) ⟨0, 0, 0, 0⟩ #[(.ref a1)] h0 (QR n0 h0 (some (.int (0 : Int32)))) := by
  refine own_start (plainFor_of_name pn_6) (fun m => (ef_22_11 m a1)) ?_
  intro p e s m below meth c s₁ hZ hx hby hml hown hnm hret X0 e0
  have N0 := Fr.nil n0
  obtain ⟨T2, X2, e2, st2⟩ := gF X0 hx hZ hown (wd117 hw) Via.refl e0 pr1 1 #[rv a1] [] (hb hby d22_1)
  refine ⟨some (.int (0 : Int32)), _, _, _, _, _, X2, e2, by decide, nofun, fun fs hr => ?_, ?_⟩
  · refine XS.aloadN X0.here hx rfl (hb hby d22_0) rfl rfl ?_
    show SS p e below s₁ m 1 #[rv a1] [(.ref a1)] _
    refine st2 _ ?_
    refine XS.ifYes X2.here hx rfl (pc0 := 4) (pc' := 11) rfl (hb hby d22_4) rfl ((if0 _ _).trans (feq (by decide : ¬ ((2 : Int32) = (0 : Int32)))).2) (by decide) (by decide) ?_
    refine XS.iconst X2.here hx rfl (hb hby d22_11) ?_
    show SS p e below T2 m 12 #[rv a1] [(.int (0 : Int32))] _
    exact retN X2 hx (t := .boolean) hret (by simp) (hb hby d22_12) hr
  · exact ⟨rfl, N0, rfl⟩
theorem ef_26_45 (m : MethodId)  : entryFrame m #[(.int (10 : Int32)), (.int (2 : Int32))] 2 = mkF m 0 #[.val (.int (10 : Int32)), .val (.int (2 : Int32))] [] := by first | (simp [entryFrame, mkF, argsToLocals, Value.category]; done) | rfl
theorem rm26_1 (l : Launch) (Z : State) (a0 : Array Value) (hw : HW a0 Z)  (h0 : Heap) (n0 : Nat) (OL0 : Old Z n0 h0)  :
    MF l Z mn26 jdk_29_method_69_code 2 (some .int) ⟨0, 0, 0, 0⟩ #[(.int (10 : Int32)), (.int (2 : Int32))] h0 (QR n0 h0 (some (.int (2 : Int32)))) := by
  refine own_start (Jvm.Free.JP.mathPlain rfl (by decide +kernel)) (fun m => (ef_26_45 m )) ?_
  intro p e s m below meth c s₁ hZ hx hby hml hown hnm hret X0 e0
  have N0 := Fr.nil n0
  refine ⟨some (.int (2 : Int32)), _, _, _, _, _, X0, e0, by decide, nofun, fun fs hr => ?_, ?_⟩
  · refine XS.iloadN X0.here hx rfl (hb hby d26_0) rfl ?_
    show SS p e below s₁ m 1 #[iv (10 : Int32), iv (2 : Int32)] [(.int (10 : Int32))] _
    refine XS.iloadN X0.here hx rfl (hb hby d26_1) rfl ?_
    refine XS.icmpYes X0.here hx rfl (pc0 := 2) (pc' := 9) rfl (hb hby d26_2) rfl (tlt (by decide : (2 : Int32) < (10 : Int32))).2.2.1 (by decide) (by decide) ?_
    refine XS.iloadN X0.here hx rfl (hb hby d26_9) rfl ?_
    show SS p e below s₁ m 10 #[iv (10 : Int32), iv (2 : Int32)] [(.int (2 : Int32))] _
    exact retI X0 hx hret (hb hby d26_10) hr
  · exact ⟨rfl, N0, rfl⟩
theorem ef_25_46 (m : MethodId) (x0 : Addr) (x2 : Addr) : entryFrame m #[(.ref x0), (.int (2 : Int32)), (.ref x2)] 4 = mkF m 0 #[.val (.ref x0), .val (.int (2 : Int32)), .val (.ref x2), .unset] [] := by first | (simp [entryFrame, mkF, argsToLocals, Value.category]; done) | rfl
theorem rm25_1 (l : Launch) (Z : State) (a0 : Array Value) (hw : HW a0 Z) (a1 w2 a5 a6 : Addr) (k7 : ClassId) (h0 : Heap) (n0 : Nat) (OL0 : Old Z n0 h0) (pr1 : MirM Z s21 w2) (pr2 : Arv Z h0 a1 k7 (.object s37) (10 : Int32) [(.ref a5), (.ref a6), .null, .null, .null, .null, .null, .null, .null, .null] .null) (pr3 : Exa Z h0 a6 s29) (pr4 : Exa Z h0 a5 s29) :
    MF l Z mn25 jdk_65_method_120_code 4 (some (.array (.object s37))) ⟨1, 1, 2, 18⟩ #[(.ref a1), (.int (2 : Int32)), (.ref w2)] h0 (fun v h L => ∃ b4 : Addr, ∃ k4 : ClassId, v = some (.ref b4) ∧ Fr n0 L ∧ Keep h0 h [] ∧ h0.size ≤ b4 ∧ Arv Z h b4 k4 (.object s37) (2 : Int32) [(.ref a5), (.ref a6)] .null ∧ Ovr Z k4 s37 ∧ Exa Z h b4 s21) := by
  refine own_start (plainFor_of_name pn_12) (fun m => (ef_25_46 m a1 w2)) ?_
  intro p e s m below meth c s₁ hZ hx hby hml hown hnm hret X0 e0
  have N0 := Fr.nil n0
  obtain ⟨T3, X3, e3, st3⟩ := own_ldcM X0 hx hZ hown (wd192 hw) e0 pr1 (g := (mkF m 1 #[rv a1, iv (2 : Int32), rv w2, uu] [(.ref w2)])) rfl (hb hby d25_1)
  obtain ⟨T4, h4, k4, X4, e4, E4, A4, AE4, O4, st4⟩ := newRE (ad := s21) X3 hx hZ hown (wd193 hw) (wd139 hw) e3 (g := (mkF m 7 #[rv a1, iv (2 : Int32), rv w2, uu] [(.int (2 : Int32))])) rfl (hb hby d25_7) rfl (by decide) (cap := 2) (by decide) (by decide) (by decide) (by decide) (by decide)
  obtain ⟨b4, g4⟩ : ∃ z, z = h0.size := ⟨_, rfl⟩
  rw [← g4] at A4 AE4 st4
  have V4 : Arv Z h4 b4 k4 (.object s37) (2 : Int32) [.null, .null] .null := (Arv.new A4 (by decide)).pad (pad_rep [] .null 2)
  have g_b4 : n0 ≤ b4 := (Nat.le_trans (Nat.le_trans (Nat.le_of_eq OL0.1.symm) OL0.2.1) (Nat.le_of_eq g4.symm))
  have sz_b4 : h0.size ≤ b4 := (Nat.le_trans (Keep.refl h0 []).1 (Nat.le_of_eq g4.symm))
  have KK4 : Keep h0 h4 [] := (Keep.refl h0 []).ext E4
  have OL4 := OL0.ext E4
  have fc8 := (pr2.ext E4)
  obtain ⟨cl9, Ar9, -, Sz9, Nn9, -, -⟩ := id fc8
  obtain ⟨_, T10, L10, X10, hQ10, st10⟩ := own_cS X4 hx hZ hown hml (cw34 hw) (rm26_1 l Z a0 hw  h4 n0 OL4 ) e4 32 #[rv a1, iv (2 : Int32), rv w2, rv b4] [(.int (10 : Int32)), (.int (2 : Int32))] [(.int (0 : Int32)), (.ref b4), (.int (0 : Int32)), (.ref a1)] 4 rfl (hb hby d25_32) (by decide)
  obtain ⟨rfl, Nq10, ec10⟩ := hQ10
  have N10 := Fr.app N0 Nq10
  obtain ⟨cl11, Ar11, q11, -, -, -, -⟩ := id V4
  have fc12 := (pr3.ext E4)
  have fc13 := (pr4.ext E4)
  obtain ⟨T14, h14, L14, X14, e14, N14, K14, VV14, st14⟩ := cpA X10 hx hZ hown (wd197 hw) (wd200 hw) (wd198 hw) (wd199 hw) ec10 (us := [(.ref a5), (.ref a6)]) fc8 V4 (Or.inr ⟨rfl, rfl, ⟨(Sto.ofV Ar11 q11 O4 (Ins.of_exa fc13 (wd140 hw))), ⟨(Sto.ofV Ar11 q11 O4 (Ins.of_exa fc12 (wd140 hw))), trivial⟩⟩⟩) (by decide) (by decide) (by decide) (by decide) (by decide) rfl (by decide) N10 g_b4 (g := (mkF m 35 #[rv a1, iv (2 : Int32), rv w2, rv b4] [(.int (2 : Int32)), (.int (0 : Int32)), (.ref b4), (.int (0 : Int32)), (.ref a1)])) rfl (by rw [hml]; rfl) rfl (hb hby d25_35) (by decide) (W := 0) (by show 2 * 0 + _ ≤ _; exact Nat.le_of_eq rfl) (by decide)
  have V14 : Arv Z h14 b4 k4 (.object s37) (2 : Int32) [(.ref a5), (.ref a6)] .null := VV14
  have KK14 : Keep h0 h14 [] := KK4.trans K14 (allS (Or.inr sz_b4) all0)
  have fc15 := (AE4.keep K14)
  refine ⟨some (.ref b4), _, _, _, _, _, X14, e14, by decide, nofun, fun fs hr => ?_, ?_⟩
  · refine XS.aloadN X0.here hx rfl (hb hby d25_0) rfl rfl ?_
    show SS p e below s₁ m 1 #[rv a1, iv (2 : Int32), rv w2, uu] [(.ref w2)] _
    refine st3 _ ?_
    refine Jvm.RoadKit.acmp (g := (mkF m 3 #[rv a1, iv (2 : Int32), rv w2, uu] [(.ref w2), (.ref w2)])) X3 hx rfl rfl rfl (pc0 := 3) (pc' := 6) (same := true) rfl (hb hby d25_3) rfl (decide_eq_true rfl) (by decide) (by decide) ?_
    refine XS.iloadN X3.here hx rfl (hb hby d25_6) rfl ?_
    refine st4 _ ?_
    refine XS.goto X4.here hx rfl (pc0 := 10) (pc' := 24) rfl (hb hby d25_10) (by decide) (by decide) ?_
    refine XS.astoreN X4.here hx rfl (hb hby d25_24) rfl rfl (l' := #[rv a1, iv (2 : Int32), rv w2, rv b4]) rfl ?_
    refine XS.aloadN X4.here hx rfl (hb hby d25_25) rfl rfl ?_
    refine XS.iconst X4.here hx rfl (hb hby d25_26) ?_
    refine XS.aloadN X4.here hx rfl (hb hby d25_27) rfl rfl ?_
    refine XS.iconst X4.here hx rfl (hb hby d25_28) ?_
    show SS p e below T4 m 29 #[rv a1, iv (2 : Int32), rv w2, rv b4] [(.int (0 : Int32)), (.ref b4), (.int (0 : Int32)), (.ref a1)] _
    refine XS.aloadN X4.here hx rfl (hb hby d25_29) rfl rfl ?_
    refine X4.arraylength hx (by rw [e4]; exact Ar9.1) (State.isArrayOf_alike hZ.alike Ar9.2.1) (g := (mkF m 30 #[rv a1, iv (2 : Int32), rv w2, rv b4] [(.ref a1), (.int (0 : Int32)), (.ref b4), (.int (0 : Int32)), (.ref a1)])) rfl rfl (hb hby d25_30) _ ?_
    rw [len_of Sz9 Nn9]
    refine XS.iloadN X4.here hx rfl (hb hby d25_31) rfl ?_
    refine st10 _ ?_
    refine st14 _ ?_
    refine XS.aloadN X14.here hx rfl (hb hby d25_38) rfl rfl ?_
    show SS p e below T14 m 39 #[rv a1, iv (2 : Int32), rv w2, rv b4] [(.ref b4)] _
    exact own_retR X14 hx hret rfl rfl rfl (hb hby d25_39) hr
  · exact ⟨b4, k4, rfl, N14, KK14, sz_b4, V14, O4, fc15⟩
theorem ef_24_47 (m : MethodId) (x0 : Addr) : entryFrame m #[(.ref x0), (.int (2 : Int32))] 2 = mkF m 0 #[.val (.ref x0), .val (.int (2 : Int32))] [] := by first | (simp [entryFrame, mkF, argsToLocals, Value.category]; done) | rfl
theorem rm24_1 (l : Launch) (Z : State) (a0 : Array Value) (hw : HW a0 Z) (a1 w2 a4 a5 : Addr) (k6 : ClassId) (h0 : Heap) (n0 : Nat) (OL0 : Old Z n0 h0) (pr1 : MirM Z s21 w2) (pr2 : Exa Z h0 a1 s21) (pr3 : Arv Z h0 a1 k6 (.object s37) (10 : Int32) [(.ref a4), (.ref a5), .null, .null, .null, .null, .null, .null, .null, .null] .null) (pr4 : Exa Z h0 a5 s29) (pr5 : Exa Z h0 a4 s29) :
    MF l Z mn24 jdk_65_method_119_code 2 (some (.array (.object s37))) ⟨2, 1, 2, 33⟩ #[(.ref a1), (.int (2 : Int32))] h0 (fun v h L => ∃ b7_0 : Addr, ∃ kx7_0 : ClassId, v = some (.ref b7_0) ∧ Fr n0 L ∧ Keep h0 h [] ∧ h0.size ≤ b7_0 ∧ Arv Z h b7_0 kx7_0 (.object s37) (2 : Int32) [(.ref a4), (.ref a5)] .null ∧ Ovr Z kx7_0 s37 ∧ Exa Z h b7_0 s21) := by
  refine own_start (plainFor_of_name pn_12) (fun m => (ef_24_47 m a1)) ?_
  intro p e s m below meth c s₁ hZ hx hby hml hown hnm hret X0 e0
  have N0 := Fr.nil n0
  obtain ⟨T3, X3, e3, st3⟩ := own_gcls X0 hx hZ hown (wd183 hw) (wd184 hw) (wd160 hw) (wd186 hw) (wd185 hw) (wd187 hw) e0 pr2 pr1 (g := (mkF m 3 #[rv a1, iv (2 : Int32)] [(.ref a1), (.int (2 : Int32)), (.ref a1)])) rfl (by rw [hml]; rfl) rfl (hb hby d24_3) (by decide) (W := 2) (by show 2 * 0 + _ ≤ _; exact Nat.le_of_eq rfl) (by decide)
  obtain ⟨_, T7, L7, X7, hQ7, st7⟩ := own_cS X3 hx hZ hown hml (cw35 hw) (rm25_1 l Z a0 hw a1 w2 a4 a5 k6 h0 n0 OL0 pr1 pr3 pr4 pr5) e3 6 #[rv a1, iv (2 : Int32)] [(.ref a1), (.int (2 : Int32)), (.ref w2)] [] 0 rfl (hb hby d24_6) (by decide)
  obtain ⟨b7_0, kx7_0, rfl, Nq7, K7, u7_0, u7_1, u7_2, u7_3⟩ := hQ7
  have KK7 : Keep h0 T7.heap [] := (Keep.refl h0 []).trans K7 all0
  have sz_b7_0 : h0.size ≤ b7_0 := Nat.le_trans (Keep.refl h0 []).1 u7_0
  have N7 := Fr.app N0 Nq7
  refine ⟨some (.ref b7_0), _, _, _, _, _, X7, rfl, by decide, nofun, fun fs hr => ?_, ?_⟩
  · refine XS.aloadN X0.here hx rfl (hb hby d24_0) rfl rfl ?_
    show SS p e below s₁ m 1 #[rv a1, iv (2 : Int32)] [(.ref a1)] _
    refine XS.iloadN X0.here hx rfl (hb hby d24_1) rfl ?_
    refine XS.aloadN X0.here hx rfl (hb hby d24_2) rfl rfl ?_
    refine st3 _ ?_
    refine st7 _ ?_
    show SS p e below T7 m 9 #[rv a1, iv (2 : Int32)] [(.ref b7_0)] _
    exact own_retR X7 hx hret rfl rfl rfl (hb hby d24_9) hr
  · exact ⟨b7_0, kx7_0, rfl, N7, KK7, sz_b7_0, u7_1, u7_2, u7_3⟩
theorem rm23_1 (l : Launch) (Z : State) (a0 : Array Value) (hw : HW a0 Z) (a1 a2 w5 a6 a7 : Addr) (k8 : ClassId) (h0 : Heap) (n0 : Nat) (OL0 : Old Z n0 h0) (pr1 : Fld Z h0 a1 s44 s32 s21 (.ref a2)) (pr2 : Fld Z h0 a1 s44 "size" "I" (.int (2 : Int32))) (pr3 : MirM Z s21 w5) (pr4 : Exa Z h0 a2 s21) (pr5 : Arv Z h0 a2 k8 (.object s37) (10 : Int32) [(.ref a6), (.ref a7), .null, .null, .null, .null, .null, .null, .null, .null] .null) (pr6 : Exa Z h0 a7 s29) (pr7 : Exa Z h0 a6 s29) :
    MF l Z mn23 jdk_38_method_16_code 1 (some (.array (.object s37))) ⟨3, 1, 2, 46⟩ #[(.ref a1)] h0 (fun v h L => ∃ b9_0 : Addr, ∃ kx9_0 : ClassId, v = some (.ref b9_0) ∧ Fr n0 L ∧ Keep h0 h [] ∧ h0.size ≤ b9_0 ∧ Arv Z h b9_0 kx9_0 (.object s37) (2 : Int32) [(.ref a6), (.ref a7)] .null ∧ Ovr Z kx9_0 s37 ∧ Exa Z h b9_0 s21) := by
  refine own_start (plainFor_of_name pn_6) (fun m => (ef_23_35 m a1)) ?_
  intro p e s m below meth c s₁ hZ hx hby hml hown hnm hret X0 e0
  have N0 := Fr.nil n0
  obtain ⟨T3, X3, e3, st3⟩ := gF X0 hx hZ hown (wd105 hw) Via.refl e0 pr1 1 #[rv a1] [] (hb hby d23_1)
  obtain ⟨T4, X4, e4, st4⟩ := gF X3 hx hZ hown (wd117 hw) Via.refl e3 pr2 5 #[rv a1] [(.ref a2)] (hb hby d23_5)
  obtain ⟨_, T9, L9, X9, hQ9, st9⟩ := own_cS X4 hx hZ hown hml (cw36 hw) (rm24_1 l Z a0 hw a2 w5 a6 a7 k8 h0 n0 OL0 pr3 pr4 pr5 pr6 pr7) e4 8 #[rv a1] [(.ref a2), (.int (2 : Int32))] [] 0 rfl (hb hby d23_8) (by decide)
  obtain ⟨b9_0, kx9_0, rfl, Nq9, K9, u9_0, u9_1, u9_2, u9_3⟩ := hQ9
  have KK9 : Keep h0 T9.heap [] := (Keep.refl h0 []).trans K9 all0
  have sz_b9_0 : h0.size ≤ b9_0 := Nat.le_trans (Keep.refl h0 []).1 u9_0
  have N9 := Fr.app N0 Nq9
  refine ⟨some (.ref b9_0), _, _, _, _, _, X9, rfl, by decide, nofun, fun fs hr => ?_, ?_⟩
  · refine XS.aloadN X0.here hx rfl (hb hby d23_0) rfl rfl ?_
    show SS p e below s₁ m 1 #[rv a1] [(.ref a1)] _
    refine st3 _ ?_
    refine XS.aloadN X3.here hx rfl (hb hby d23_4) rfl rfl ?_
    refine st4 _ ?_
    refine st9 _ ?_
    show SS p e below T9 m 11 #[rv a1] [(.ref b9_0)] _
    exact own_retR X9 hx hret rfl rfl rfl (hb hby d23_11) hr
  · exact ⟨b9_0, kx9_0, rfl, N9, KK9, sz_b9_0, u9_1, u9_2, u9_3⟩
theorem d27_45 : DC cb27 45 (.new 96) 3 := by decide +kernel
theorem d27_48 : DC cb27 48 (.dup) 1 := by decide +kernel
theorem d27_49 : DC cb27 49 (.aload_n 0) 1 := by decide +kernel
theorem d27_50 : DC cb27 50 (.iconst 0) 1 := by decide +kernel
theorem d27_51 : DC cb27 51 (.aaload) 1 := by decide +kernel
theorem d27_52 : DC cb27 52 (.aload_n 0) 1 := by decide +kernel
theorem d27_53 : DC cb27 53 (.iconst 1) 1 := by decide +kernel
theorem d27_54 : DC cb27 54 (.aaload) 1 := by decide +kernel
theorem d27_55 : DC cb27 55 (.invokespecial 100) 3 := by decide +kernel
theorem d48_0 : DC cb48 0 (.aload_n 0) 1 := by decide +kernel
theorem d48_1 : DC cb48 1 (.invokespecial 1) 3 := by decide +kernel
theorem d48_4 : DC cb48 4 (.aload_n 0) 1 := by decide +kernel
theorem d48_5 : DC cb48 5 (.aload_n 1) 1 := by decide +kernel
theorem d48_6 : DC cb48 6 (.invokestatic 7) 3 := by decide +kernel
theorem d48_9 : DC cb48 9 (.putfield 13) 3 := by decide +kernel
theorem d48_12 : DC cb48 12 (.aload_n 0) 1 := by decide +kernel
theorem d48_13 : DC cb48 13 (.aload_n 2) 1 := by decide +kernel
theorem d48_14 : DC cb48 14 (.invokestatic 7) 3 := by decide +kernel
theorem d48_17 : DC cb48 17 (.putfield 24) 3 := by decide +kernel
theorem d48_20 : DC cb48 20 (.return_) 1 := by decide +kernel
theorem ef_48_48 (m : MethodId) (x0 : Addr) (x1 : Addr) (x2 : Addr) : entryFrame m #[(.ref x0), (.ref x1), (.ref x2)] 3 = mkF m 0 #[.val (.ref x0), .val (.ref x1), .val (.ref x2)] [] := by first | (simp [entryFrame, mkF, argsToLocals, Value.category]; done) | rfl
theorem rm48_0 (l : Launch) (Z : State) (a0 : Array Value) (hw : HW a0 Z) (a1 a2 a3 : Addr) (h0 : Heap) (n0 : Nat) (OL0 : Old Z n0 h0) (pr1 : Exa Z h0 a1 s50) (pr2 : Fld Z h0 a1 s50 "e0" s10 .null) (pr3 : n0 ≤ a1) (pr4 : Fld Z h0 a1 s50 "e1" s10 .null) :
    MF l Z mn48 jdk_44_method_2_code 3 none ⟨4, 0, 0, 48⟩ #[(.ref a1), (.ref a2), (.ref a3)] h0 (fun v h L => v = none ∧ Fr n0 L ∧ Keep h0 h [a1] ∧ Fld Z h a1 s50 "e0" s10 (.ref a2) ∧ Fld Z h a1 s50 "e1" s10 (.ref a3)) := by
  refine own_start (plainFor_of_name pn_16) (fun m => (ef_48_48 m a1 a2 a3)) ?_
  intro p e s m below meth c s₁ hZ hx hby hml hown hnm hret X0 e0
  have N0 := Fr.nil n0
  obtain ⟨_, T4, L4, X4, hQ4, st4⟩ := own_cN X0 hx hZ hown hml (cw40 hw) (rm29_0 l Z a0 hw a1 h0 n0 OL0 ) e0 a1 1 #[rv a1, rv a2, rv a3] [] [] 0 rfl (hb hby d48_1) (by decide)
  obtain ⟨rfl, Nq4, ec4⟩ := hQ4
  have N4 := Fr.app N0 Nq4
  obtain ⟨_, T5, L5, X5, hQ5, st5⟩ := own_cS X4 hx hZ hown hml (cw41 hw) (rm31_0 l Z a0 hw a2 h0 n0 OL0 ) ec4 6 #[rv a1, rv a2, rv a3] [(.ref a2)] [(.ref a1)] 1 rfl (hb hby d48_6) (by decide)
  obtain ⟨rfl, Nq5, ec5⟩ := hQ5
  have N5 := Fr.app N4 Nq5
  obtain ⟨T6, h6, X6, e6, W6, st6⟩ := putF X5 hx hZ hown (host := "") (Or.inl (wd229 hw)) Via.refl ec5 pr2 pr1 (Or.inr ⟨(wd230 hw), rfl, hnm⟩) (wd205 hw) (ty := (.object s37)) (by decide) rfl rfl (g := (mkF m 9 #[rv a1, rv a2, rv a3] [(.ref a2), (.ref a1)])) rfl rfl (hb hby d48_9)
  have Fw6 := pr2.same W6
  have KK6 : Keep h0 h6 [a1] := (Keep.refl h0 [a1]).wr W6 (Or.inl (List.mem_of_getElem? (i := 0) rfl))
  have OL6 := OL0.wr W6 pr3
  have N6 := Fr.snoc X6 N5 pr3
  obtain ⟨_, T7, L7, X7, hQ7, st7⟩ := own_cS X6 hx hZ hown hml (cw41 hw) (rm31_0 l Z a0 hw a3 h6 n0 OL6 ) e6 14 #[rv a1, rv a2, rv a3] [(.ref a3)] [(.ref a1)] 1 rfl (hb hby d48_14) (by decide)
  obtain ⟨rfl, Nq7, ec7⟩ := hQ7
  have N7 := Fr.app N6 Nq7
  have fc8 := (pr1.wr W6)
  have fc9 := (pr4.other W6 (Or.inr (slot_ne (Or.inr (wd233 hw)) (Or.inr (wd230 hw)) (by decide) (t := (.object s37)) (t' := (.object s37)) (by decide) (by decide))))
  obtain ⟨T10, h10, X10, e10, W10, st10⟩ := putF X7 hx hZ hown (host := "") (Or.inl (wd232 hw)) Via.refl ec7 fc9 fc8 (Or.inr ⟨(wd233 hw), rfl, hnm⟩) (wd205 hw) (ty := (.object s37)) (by decide) rfl rfl (g := (mkF m 17 #[rv a1, rv a2, rv a3] [(.ref a3), (.ref a1)])) rfl rfl (hb hby d48_17)
  have Fw10 := fc9.same W10
  have KK10 : Keep h0 h10 [a1] := KK6.wr W10 (Or.inl (List.mem_of_getElem? (i := 0) rfl))
  have N10 := Fr.snoc X10 N7 pr3
  have fc11 := (Fw6.other W10 (Or.inr (slot_ne (Or.inr (wd230 hw)) (Or.inr (wd233 hw)) (by decide) (t := (.object s37)) (t' := (.object s37)) (by decide) (by decide))))
  refine ⟨none, _, _, _, _, _, X10, e10, by decide, fun _ => rfl, fun fs hr => ?_, ?_⟩
  · refine XS.aloadN X0.here hx rfl (hb hby d48_0) rfl rfl ?_
    show SS p e below s₁ m 1 #[rv a1, rv a2, rv a3] [(.ref a1)] _
    refine st4 _ ?_
    refine XS.aloadN X4.here hx rfl (hb hby d48_4) rfl rfl ?_
    refine XS.aloadN X4.here hx rfl (hb hby d48_5) rfl rfl ?_
    refine st5 _ ?_
    refine st6 _ ?_
    refine XS.aloadN X6.here hx rfl (hb hby d48_12) rfl rfl ?_
    refine XS.aloadN X6.here hx rfl (hb hby d48_13) rfl rfl ?_
    refine st7 _ ?_
    refine st10 _ ?_
    show SS p e below T10 m 20 #[rv a1, rv a2, rv a3] [] _
    exact X10.returnOut hx hret (hb hby d48_20) hr
  · exact ⟨rfl, N10, KK10, fc11, Fw10⟩
theorem pd_30 : parseMethodDescriptor "(Ljava/lang/Object;Ljava/lang/Object;)V" = some ⟨[(.object "java/lang/Object"), (.object "java/lang/Object")], none⟩ := by decide +kernel
theorem cw46 {a0 Z} (hw : HW a0 Z) : CN a0 Z s52 100 mn48 2 (.code mn48 jdk_44_method_2_code 3 none) :=
  ⟨rfl, wx hw 342 rfl, wx hw 343 rfl, wx hw 344 rfl, wx hw 206 rfl, by decide, _, _, pd_30, rfl⟩
theorem d27_58 : DC cb27 58 (.areturn) 1 := by decide +kernel
theorem rm27_1 (l : Launch) (Z : State) (a0 : Array Value) (hw : HW a0 Z) (a1 a2 a3 : Addr) (k4 : ClassId) (h0 : Heap) (n0 : Nat) (OL0 : Old Z n0 h0) (pr1 : Arv Z h0 a1 k4 (.object s37) (2 : Int32) [(.ref a2), (.ref a3)] .null) :
    MF l Z mn27 jdk_40_method_47_code 2 (some (.object s52)) ⟨5, 1, 2, 63⟩ #[(.ref a1)] h0 (fun v h L => ∃ b6 : Addr, v = some (.ref b6) ∧ Fr n0 L ∧ Keep h0 h [] ∧ h0.size ≤ b6 ∧ Exa Z h b6 s50 ∧ Fld Z h b6 s50 "e0" s10 (.ref a2) ∧ Fld Z h b6 s50 "e1" s10 (.ref a3)) := by
  refine own_start (plainFor_of_name pn_8) (fun m => (ef_27_40 m a1)) ?_
  intro p e s m below meth c s₁ hZ hx hby hml hown hnm hret X0 e0
  have N0 := Fr.nil n0
  obtain ⟨cl5, Ar5, -, Sz5, Nn5, -, -⟩ := id pr1
  obtain ⟨T6, h6, X6, e6, E6, A6, D6, -, st6⟩ := newO X0 hx hZ hown (wd204 hw) (wd205 hw) (wd206 hw) e0 (g := (mkF m 45 #[rv a1, uu] [])) rfl (hb hby d27_45) (by decide) (by decide)
  obtain ⟨b6, g6⟩ : ∃ z, z = h0.size := ⟨_, rfl⟩
  rw [← g6] at A6 D6 st6
  have g_b6 : n0 ≤ b6 := (Nat.le_trans (Nat.le_trans (Nat.le_of_eq OL0.1.symm) OL0.2.1) (Nat.le_of_eq g6.symm))
  have sz_b6 : h0.size ≤ b6 := (Nat.le_trans (Keep.refl h0 []).1 (Nat.le_of_eq g6.symm))
  have KK6 : Keep h0 h6 [] := (Keep.refl h0 []).ext E6
  have OL6 := OL0.ext E6
  have F_e0_b6 : Fld Z h6 b6 s50 "e0" s10 .null := D6 (Or.inr (wd230 hw)) (ty := (.object s37)) (by decide)
  have F_e1_b6 : Fld Z h6 b6 s50 "e1" s10 .null := D6 (Or.inr (wd233 hw)) (ty := (.object s37)) (by decide)
  have fc7 := (pr1.ext E6)
  obtain ⟨_, T10, L10, X10, hQ10, st10⟩ := own_cN X6 hx hZ hown hml (cw46 hw) (rm48_0 l Z a0 hw b6 a2 a3 h6 n0 OL6 A6 F_e0_b6 g_b6 F_e1_b6) e6 b6 55 #[rv a1, uu] [(.ref a2), (.ref a3)] [(.ref b6)] 1 rfl (hb hby d27_55) (by decide)
  obtain ⟨rfl, Nq10, K10, u10_0, u10_1⟩ := hQ10
  have KK10 : Keep h0 T10.heap [] := KK6.trans K10 (allS (Or.inr sz_b6) all0)
  have N10 := Fr.app N0 Nq10
  have fc11 := (A6.keep K10)
  refine ⟨some (.ref b6), _, _, _, _, _, X10, rfl, by decide, nofun, fun fs hr => ?_, ?_⟩
  · refine XS.aloadN X0.here hx rfl (hb hby d27_0) rfl rfl ?_
    show SS p e below s₁ m 1 #[rv a1, uu] [(.ref a1)] _
    refine X0.arraylength hx (by rw [e0]; exact Ar5.1) (State.isArrayOf_alike hZ.alike Ar5.2.1) (g := (mkF m 1 #[rv a1, uu] [(.ref a1)])) rfl rfl (hb hby d27_1) _ ?_
    rw [len_of Sz5 Nn5]
    refine XS.tswIn X0.here hx rfl (pc0 := 2) (pc' := 45) (o := 43) rfl (hb hby d27_2) rfl (by decide) (by decide) (by decide) (by decide) ?_
    refine st6 _ ?_
    refine XS.dup X6.here hx rfl (hb hby d27_48) rfl rfl ?_
    refine XS.aloadN X6.here hx rfl (hb hby d27_49) rfl rfl ?_
    refine XS.iconst X6.here hx rfl (hb hby d27_50) ?_
    refine own_laR X6 hx hZ e6 fc7 (v := (.ref a2)) (by decide) rfl rfl (hb hby d27_51) ?_
    refine XS.aloadN X6.here hx rfl (hb hby d27_52) rfl rfl ?_
    refine XS.iconst X6.here hx rfl (hb hby d27_53) ?_
    refine own_laR X6 hx hZ e6 fc7 (v := (.ref a3)) (by decide) rfl rfl (hb hby d27_54) ?_
    show SS p e below T6 m 55 #[rv a1, uu] [(.ref a3), (.ref a2), (.ref b6), (.ref b6)] _
    refine st10 _ ?_
    show SS p e below T10 m 58 #[rv a1, uu] [(.ref b6)] _
    exact own_retR X10 hx hret rfl rfl rfl (hb hby d27_58) hr
  · exact ⟨b6, rfl, N10, KK10, sz_b6, fc11, u10_0, u10_1⟩
theorem rm21_2 (l : Launch) (Z : State) (a0 : Array Value) (hw : HW a0 Z) (a1 a5 w6 a7 a8 : Addr) (k9 : ClassId) (h0 : Heap) (n0 : Nat) (OL0 : Old Z n0 h0) (pr1 : Exa Z h0 a1 s44) (pr2 : Fld Z h0 a1 s44 "size" "I" (.int (2 : Int32))) (pr3 : Fld Z h0 a1 s44 s32 s21 (.ref a5)) (pr4 : MirM Z s21 w6) (pr5 : Exa Z h0 a5 s21) (pr6 : Arv Z h0 a5 k9 (.object s37) (10 : Int32) [(.ref a7), (.ref a8), .null, .null, .null, .null, .null, .null, .null, .null] .null) (pr7 : Exa Z h0 a8 s29) (pr8 : Exa Z h0 a7 s29) :
    MF l Z mn21 jdk_56_method_3_code 2 (some (.object s52)) ⟨6, 2, 4, 76⟩ #[(.ref a1)] h0 (fun v h L => ∃ b11_0 : Addr, v = some (.ref b11_0) ∧ Fr n0 L ∧ Keep h0 h [] ∧ h0.size ≤ b11_0 ∧ Exa Z h b11_0 s50 ∧ Fld Z h b11_0 s50 "e0" s10 (.ref a7) ∧ Fld Z h b11_0 s50 "e1" s10 (.ref a8)) := by
  refine own_start (plainFor_of_name pn_9) (fun m => (ef_21_13 m a1)) ?_
  intro p e s m below meth c s₁ hZ hx hby hml hown hnm hret X0 e0
  have N0 := Fr.nil n0
  obtain ⟨T2, X2, e2, st2⟩ := instNo X0 hx hZ hown (wd156 hw) e0 pr1 (own_no (wd157 hw) (NI.inst (wd205 hw)) (NS.step (wd157 hw) (NS.step (wd158 hw) (NS.step (wd159 hw) (own_root (wd160 hw) (NI.inst (wd205 hw)) (by decide)) (by decide)) (by decide)) (by decide)) (by decide)) (g := (mkF m 1 #[rv a1, uu] [(.ref a1)])) rfl rfl (hb hby d21_1)
  obtain ⟨T3, X3, e3, st3⟩ := instNo X2 hx hZ hown (wd161 hw) e2 pr1 (own_no (wd157 hw) (NI.inst (wd326 hw)) (NS.step (wd157 hw) (NS.step (wd158 hw) (NS.step (wd159 hw) (own_root (wd160 hw) (NI.inst (wd326 hw)) (by decide)) (by decide)) (by decide)) (by decide)) (by decide)) (g := (mkF m 8 #[rv a1, uu] [(.ref a1)])) rfl rfl (hb hby d21_8)
  obtain ⟨_, T4, L4, X4, hQ4, st4⟩ := own_cI X3 hx hZ hown hml (cw12 hw) (rm22_2 l Z a0 hw a1 h0 n0 OL0 pr2) e3 pr1 32 #[rv a1, uu] [] [] 0 rfl (hb hby d21_32) (by decide)
  obtain ⟨rfl, Nq4, ec4⟩ := hQ4
  have N4 := Fr.app N0 Nq4
  obtain ⟨_, T10, L10, X10, hQ10, st10⟩ := own_cI X4 hx hZ hown hml (cw37 hw) (rm23_1 l Z a0 hw a1 a5 w6 a7 a8 k9 h0 n0 OL0 pr3 pr2 pr4 pr5 pr6 pr7 pr8) ec4 pr1 45 #[rv a1, uu] [] [] 0 rfl (hb hby d21_45) (by decide)
  obtain ⟨b10_0, kx10_0, rfl, Nq10, K10, u10_0, u10_1, u10_2, u10_3⟩ := hQ10
  have KK10 : Keep h0 T10.heap [] := (Keep.refl h0 []).trans K10 all0
  have OL10 := OL0.keep K10 all0
  have N10 := Fr.app N4 Nq10
  obtain ⟨_, T11, L11, X11, hQ11, st11⟩ := own_cS X10 hx hZ hown hml (cw43 hw) (rm27_1 l Z a0 hw b10_0 a7 a8 kx10_0 T10.heap n0 OL10 u10_1) rfl 50 #[rv a1, uu] [(.ref b10_0)] [] 0 rfl (hb hby d21_50) (by decide)
  obtain ⟨b11_0, rfl, Nq11, K11, u11_0, u11_1, u11_2, u11_3⟩ := hQ11
  have KK11 : Keep h0 T11.heap [] := KK10.trans K11 all0
  have sz_b11_0 : h0.size ≤ b11_0 := Nat.le_trans KK10.1 u11_0
  have N11 := Fr.app N10 Nq11
  refine ⟨some (.ref b11_0), _, _, _, _, _, X11, rfl, by decide, nofun, fun fs hr => ?_, ?_⟩
  · refine XS.aloadN X0.here hx rfl (hb hby d21_0) rfl rfl ?_
    show SS p e below s₁ m 1 #[rv a1, uu] [(.ref a1)] _
    refine st2 _ ?_
    refine XS.ifNo X2.here hx rfl (hb hby d21_4) rfl ((if0 _ _).trans (teq (rfl : (0 : Int32) = (0 : Int32))).2) ?_
    refine XS.aloadN X2.here hx rfl (hb hby d21_7) rfl rfl ?_
    refine st3 _ ?_
    refine XS.ifYes X3.here hx rfl (pc0 := 11) (pc' := 31) rfl (hb hby d21_11) rfl ((if0 _ _).trans (teq (rfl : (0 : Int32) = (0 : Int32))).1) (by decide) (by decide) ?_
    refine XS.aloadN X3.here hx rfl (hb hby d21_31) rfl rfl ?_
    refine st4 _ ?_
    refine XS.ifYes X4.here hx rfl (pc0 := 37) (pc' := 44) rfl (hb hby d21_37) rfl ((if0 _ _).trans (teq (rfl : (0 : Int32) = (0 : Int32))).1) (by decide) (by decide) ?_
    refine XS.aloadN X4.here hx rfl (hb hby d21_44) rfl rfl ?_
    refine st10 _ ?_
    show SS p e below T10 m 50 #[rv a1, uu] [(.ref b10_0)] _
    refine st11 _ ?_
    show SS p e below T11 m 53 #[rv a1, uu] [(.ref b11_0)] _
    exact own_retR X11 hx hret rfl rfl rfl (hb hby d21_53) hr
  · exact ⟨b11_0, rfl, N11, KK11, sz_b11_0, u11_1, u11_2, u11_3⟩
theorem rm20_2 (l : Launch) (Z : State) (a0 : Array Value) (hw : HW a0 Z) (a1 a2 w3 a4 a5 : Addr) (k6 : ClassId) (h0 : Heap) (n0 : Nat) (OL0 : Old Z n0 h0) (pr1 : Exa Z h0 a1 s44) (pr2 : Fld Z h0 a1 s44 "size" "I" (.int (2 : Int32))) (pr3 : Fld Z h0 a1 s44 s32 s21 (.ref a2)) (pr4 : MirM Z s21 w3) (pr5 : Exa Z h0 a2 s21) (pr6 : Arv Z h0 a2 k6 (.object s37) (10 : Int32) [(.ref a4), (.ref a5), .null, .null, .null, .null, .null, .null, .null, .null] .null) (pr7 : Exa Z h0 a5 s29) (pr8 : Exa Z h0 a4 s29) :
    MF l Z mn20 jdk_40_method_48_code 1 (some (.object s52)) ⟨7, 2, 4, 89⟩ #[(.ref a1)] h0 (fun v h L => ∃ b7_0 : Addr, v = some (.ref b7_0) ∧ Fr n0 L ∧ Keep h0 h [] ∧ h0.size ≤ b7_0 ∧ Exa Z h b7_0 s50 ∧ Fld Z h b7_0 s50 "e0" s10 (.ref a4) ∧ Fld Z h b7_0 s50 "e1" s10 (.ref a5)) := by
  refine own_start (plainFor_of_name pn_8) (fun m => (ef_20_14 m a1)) ?_
  intro p e s m below meth c s₁ hZ hx hby hml hown hnm hret X0 e0
  have N0 := Fr.nil n0
  obtain ⟨_, T7, L7, X7, hQ7, st7⟩ := own_cS X0 hx hZ hown hml (cw14 hw) (rm21_2 l Z a0 hw a1 a2 w3 a4 a5 k6 h0 n0 OL0 pr1 pr2 pr3 pr4 pr5 pr6 pr7 pr8) e0 1 #[rv a1] [(.ref a1)] [] 0 rfl (hb hby d20_1) (by decide)
  obtain ⟨b7_0, rfl, Nq7, K7, u7_0, u7_1, u7_2, u7_3⟩ := hQ7
  have KK7 : Keep h0 T7.heap [] := (Keep.refl h0 []).trans K7 all0
  have sz_b7_0 : h0.size ≤ b7_0 := Nat.le_trans (Keep.refl h0 []).1 u7_0
  have N7 := Fr.app N0 Nq7
  refine ⟨some (.ref b7_0), _, _, _, _, _, X7, rfl, by decide, nofun, fun fs hr => ?_, ?_⟩
  · refine XS.aloadN X0.here hx rfl (hb hby d20_0) rfl rfl ?_
    show SS p e below s₁ m 1 #[rv a1] [(.ref a1)] _
    refine st7 _ ?_
    show SS p e below T7 m 4 #[rv a1] [(.ref b7_0)] _
    exact own_retR X7 hx hret rfl rfl rfl (hb hby d20_4) hr
  · exact ⟨b7_0, rfl, N7, KK7, sz_b7_0, u7_1, u7_2, u7_3⟩
theorem rm19_2 (l : Launch) (Z : State) (a0 : Array Value) (hw : HW a0 Z) (a1 a2 a3 w4 a5 a7 w8 a9 a10 : Addr) (k11 : ClassId) (h0 : Heap) (n0 : Nat) (OL0 : Old Z n0 h0) (pr1 : Exa Z h0 a5 s44) (pr2 : Fld Z h0 a5 s44 "size" "I" (.int (2 : Int32))) (pr3 : Fld Z h0 a5 s44 s32 s21 (.ref a7)) (pr4 : MirM Z s21 w8) (pr5 : Exa Z h0 a7 s21) (pr6 : Arv Z h0 a7 k11 (.object s37) (10 : Int32) [(.ref a9), (.ref a10), .null, .null, .null, .null, .null, .null, .null, .null] .null) (pr7 : Exa Z h0 a10 s29) (pr8 : Exa Z h0 a9 s29) (pr9 : Exa Z h0 a1 s27) (pr10 : Fld Z h0 a1 s27 "id" s11 .null) (pr11 : n0 ≤ a1) (pr12 : Fld Z h0 a1 s27 "name" s11 .null) (pr13 : Fld Z h0 a1 s27 "basis" s9 .null) (pr14 : Fld Z h0 a1 s27 "onlyFor" s16 .null) (pr15 : Fld Z h0 a1 s27 s24 s16 .null) (pr16 : Fld Z h0 a1 s27 "prices" s15 .null) :
    MF l Z mn19 prog_22_method_1_code 7 none ⟨8, 2, 4, 101⟩ #[(.ref a1), (.ref a2), (.ref a3), (.ref w4), .null, .null, (.ref a5)] h0 (fun v h L => ∃ b12_0 : Addr, v = none ∧ Fr n0 L ∧ Keep h0 h [a1] ∧ h0.size ≤ b12_0 ∧ Fld Z h a1 s27 "id" s11 (.ref a2) ∧ Fld Z h a1 s27 "name" s11 (.ref a3) ∧ Fld Z h a1 s27 "basis" s9 (.ref w4) ∧ Fld Z h a1 s27 "onlyFor" s16 .null ∧ Fld Z h a1 s27 s24 s16 .null ∧ Fld Z h a1 s27 "prices" s15 (.ref b12_0) ∧ Exa Z h b12_0 s50 ∧ Fld Z h b12_0 s50 "e0" s10 (.ref a9) ∧ Fld Z h b12_0 s50 "e1" s10 (.ref a10)) := by
  refine own_start (plainFor_of_name pn_10) (fun m => (ef_19_15 m a1 a2 a3 w4 a5)) ?_
  intro p e s m below meth c s₁ hZ hx hby hml hown hnm hret X0 e0
  have N0 := Fr.nil n0
  obtain ⟨_, T6, L6, X6, hQ6, st6⟩ := own_cN X0 hx hZ hown hml (cw11 hw) (rm2_0 l Z a0 hw a1 h0 n0 OL0 ) e0 a1 1 #[rv a1, rv a2, rv a3, rv w4, .val .null, .val .null, rv a5] [] [] 0 rfl (hb hby d19_1) (by decide)
  obtain ⟨rfl, Nq6, ec6⟩ := hQ6
  have N6 := Fr.app N0 Nq6
  obtain ⟨_, T12, L12, X12, hQ12, st12⟩ := own_cS X6 hx hZ hown hml (cw15 hw) (rm20_2 l Z a0 hw a5 a7 w8 a9 a10 k11 h0 n0 OL0 pr1 pr2 pr3 pr4 pr5 pr6 pr7 pr8) ec6 6 #[rv a1, rv a2, rv a3, rv w4, .val .null, .val .null, rv a5] [(.ref a5)] [] 0 rfl (hb hby d19_6) (by decide)
  obtain ⟨b12_0, rfl, Nq12, K12, u12_0, u12_1, u12_2, u12_3⟩ := hQ12
  have KK12 : Keep h0 T12.heap [a1] := (Keep.refl h0 [a1]).trans K12 all0
  have sz_b12_0 : h0.size ≤ b12_0 := Nat.le_trans (Keep.refl h0 [a1]).1 u12_0
  have N12 := Fr.app N6 Nq12
  have fc13 := (pr9.keep K12)
  have fc14 := (pr10.keep K12 nin0)
  obtain ⟨T15, h15, X15, e15, W15, st15⟩ := putF X12 hx hZ hown (host := "") (Or.inl (wd234 hw)) Via.refl rfl fc14 fc13 (Or.inr ⟨(wd235 hw), rfl, hnm⟩) (wd142 hw) (ty := (.object s39)) (by decide) rfl rfl (g := (mkF m 13 #[rv a1, rv a2, rv a3, rv w4, .val .null, .val .null, rv b12_0] [(.ref a2), (.ref a1)])) rfl rfl (hb hby d19_13)
  have Fw15 := fc14.same W15
  have KK15 : Keep h0 h15 [a1] := KK12.wr W15 (Or.inl (List.mem_of_getElem? (i := 0) rfl))
  have N15 := Fr.snoc X15 N12 pr11
  have fc16 := (fc13.wr W15)
  have fc17 := ((pr12.keep K12 nin0).other W15 (Or.inr (slot_ne (Or.inr (wd237 hw)) (Or.inr (wd235 hw)) (by decide) (t := (.object s39)) (t' := (.object s39)) (by decide) (by decide))))
  obtain ⟨T18, h18, X18, e18, W18, st18⟩ := putF X15 hx hZ hown (host := "") (Or.inl (wd236 hw)) Via.refl e15 fc17 fc16 (Or.inr ⟨(wd237 hw), rfl, hnm⟩) (wd142 hw) (ty := (.object s39)) (by decide) rfl rfl (g := (mkF m 18 #[rv a1, rv a2, rv a3, rv w4, .val .null, .val .null, rv b12_0] [(.ref a3), (.ref a1)])) rfl rfl (hb hby d19_18)
  have Fw18 := fc17.same W18
  have KK18 : Keep h0 h18 [a1] := KK15.wr W18 (Or.inl (List.mem_of_getElem? (i := 0) rfl))
  have N18 := Fr.snoc X18 N15 pr11
  have fc19 := (fc16.wr W18)
  have fc20 := (((pr13.keep K12 nin0).other W15 (Or.inr (slot_ne (Or.inr (wd239 hw)) (Or.inr (wd235 hw)) (by decide) (t := (.object s26)) (t' := (.object s39)) (by decide) (by decide)))).other W18 (Or.inr (slot_ne (Or.inr (wd239 hw)) (Or.inr (wd237 hw)) (by decide) (t := (.object s26)) (t' := (.object s39)) (by decide) (by decide))))
  obtain ⟨T21, h21, X21, e21, W21, st21⟩ := putF X18 hx hZ hown (host := "") (Or.inl (wd238 hw)) Via.refl e18 fc20 fc19 (Or.inr ⟨(wd239 hw), rfl, hnm⟩) (wd142 hw) (ty := (.object s26)) (by decide) rfl rfl (g := (mkF m 23 #[rv a1, rv a2, rv a3, rv w4, .val .null, .val .null, rv b12_0] [(.ref w4), (.ref a1)])) rfl rfl (hb hby d19_23)
  have Fw21 := fc20.same W21
  have KK21 : Keep h0 h21 [a1] := KK18.wr W21 (Or.inl (List.mem_of_getElem? (i := 0) rfl))
  have N21 := Fr.snoc X21 N18 pr11
  have fc22 := (fc19.wr W21)
  have fc23 := ((((pr14.keep K12 nin0).other W15 (Or.inr (slot_ne (Or.inr (wd241 hw)) (Or.inr (wd235 hw)) (by decide) (t := (.object s54)) (t' := (.object s39)) (by decide) (by decide)))).other W18 (Or.inr (slot_ne (Or.inr (wd241 hw)) (Or.inr (wd237 hw)) (by decide) (t := (.object s54)) (t' := (.object s39)) (by decide) (by decide)))).other W21 (Or.inr (slot_ne (Or.inr (wd241 hw)) (Or.inr (wd239 hw)) (by decide) (t := (.object s54)) (t' := (.object s26)) (by decide) (by decide))))
  obtain ⟨T24, h24, X24, e24, W24, st24⟩ := putF X21 hx hZ hown (host := "") (Or.inl (wd240 hw)) Via.refl e21 fc23 fc22 (Or.inr ⟨(wd241 hw), rfl, hnm⟩) (wd142 hw) (ty := (.object s54)) (by decide) rfl rfl (g := (mkF m 29 #[rv a1, rv a2, rv a3, rv w4, .val .null, .val .null, rv b12_0] [.null, (.ref a1)])) rfl rfl (hb hby d19_29)
  have Fw24 := fc23.same W24
  have KK24 : Keep h0 h24 [a1] := KK21.wr W24 (Or.inl (List.mem_of_getElem? (i := 0) rfl))
  have N24 := Fr.snoc X24 N21 pr11
  have fc25 := (fc22.wr W24)
  have fc26 := (((((pr15.keep K12 nin0).other W15 (Or.inr (slot_ne (Or.inr (wd243 hw)) (Or.inr (wd235 hw)) (by decide) (t := (.object s54)) (t' := (.object s39)) (by decide) (by decide)))).other W18 (Or.inr (slot_ne (Or.inr (wd243 hw)) (Or.inr (wd237 hw)) (by decide) (t := (.object s54)) (t' := (.object s39)) (by decide) (by decide)))).other W21 (Or.inr (slot_ne (Or.inr (wd243 hw)) (Or.inr (wd239 hw)) (by decide) (t := (.object s54)) (t' := (.object s26)) (by decide) (by decide)))).other W24 (Or.inr (slot_ne (Or.inr (wd243 hw)) (Or.inr (wd241 hw)) (by decide) (t := (.object s54)) (t' := (.object s54)) (by decide) (by decide))))
  obtain ⟨T27, h27, X27, e27, W27, st27⟩ := putF X24 hx hZ hown (host := "") (Or.inl (wd242 hw)) Via.refl e24 fc26 fc25 (Or.inr ⟨(wd243 hw), rfl, hnm⟩) (wd142 hw) (ty := (.object s54)) (by decide) rfl rfl (g := (mkF m 35 #[rv a1, rv a2, rv a3, rv w4, .val .null, .val .null, rv b12_0] [.null, (.ref a1)])) rfl rfl (hb hby d19_35)
  have Fw27 := fc26.same W27
  have KK27 : Keep h0 h27 [a1] := KK24.wr W27 (Or.inl (List.mem_of_getElem? (i := 0) rfl))
  have N27 := Fr.snoc X27 N24 pr11
  have fc28 := (fc25.wr W27)
  have fc29 := ((((((pr16.keep K12 nin0).other W15 (Or.inr (slot_ne (Or.inr (wd245 hw)) (Or.inr (wd235 hw)) (by decide) (t := (.object s52)) (t' := (.object s39)) (by decide) (by decide)))).other W18 (Or.inr (slot_ne (Or.inr (wd245 hw)) (Or.inr (wd237 hw)) (by decide) (t := (.object s52)) (t' := (.object s39)) (by decide) (by decide)))).other W21 (Or.inr (slot_ne (Or.inr (wd245 hw)) (Or.inr (wd239 hw)) (by decide) (t := (.object s52)) (t' := (.object s26)) (by decide) (by decide)))).other W24 (Or.inr (slot_ne (Or.inr (wd245 hw)) (Or.inr (wd241 hw)) (by decide) (t := (.object s52)) (t' := (.object s54)) (by decide) (by decide)))).other W27 (Or.inr (slot_ne (Or.inr (wd245 hw)) (Or.inr (wd243 hw)) (by decide) (t := (.object s52)) (t' := (.object s54)) (by decide) (by decide))))
  obtain ⟨T30, h30, X30, e30, W30, st30⟩ := putF X27 hx hZ hown (host := "") (Or.inl (wd244 hw)) Via.refl e27 fc29 fc28 (Or.inr ⟨(wd245 hw), rfl, hnm⟩) (wd142 hw) (ty := (.object s52)) (by decide) rfl rfl (g := (mkF m 41 #[rv a1, rv a2, rv a3, rv w4, .val .null, .val .null, rv b12_0] [(.ref b12_0), (.ref a1)])) rfl rfl (hb hby d19_41)
  have Fw30 := fc29.same W30
  have KK30 : Keep h0 h30 [a1] := KK27.wr W30 (Or.inl (List.mem_of_getElem? (i := 0) rfl))
  have N30 := Fr.snoc X30 N27 pr11
  have fc31 := (((((Fw15.other W18 (Or.inr (slot_ne (Or.inr (wd235 hw)) (Or.inr (wd237 hw)) (by decide) (t := (.object s39)) (t' := (.object s39)) (by decide) (by decide)))).other W21 (Or.inr (slot_ne (Or.inr (wd235 hw)) (Or.inr (wd239 hw)) (by decide) (t := (.object s39)) (t' := (.object s26)) (by decide) (by decide)))).other W24 (Or.inr (slot_ne (Or.inr (wd235 hw)) (Or.inr (wd241 hw)) (by decide) (t := (.object s39)) (t' := (.object s54)) (by decide) (by decide)))).other W27 (Or.inr (slot_ne (Or.inr (wd235 hw)) (Or.inr (wd243 hw)) (by decide) (t := (.object s39)) (t' := (.object s54)) (by decide) (by decide)))).other W30 (Or.inr (slot_ne (Or.inr (wd235 hw)) (Or.inr (wd245 hw)) (by decide) (t := (.object s39)) (t' := (.object s52)) (by decide) (by decide))))
  have fc32 := ((((Fw18.other W21 (Or.inr (slot_ne (Or.inr (wd237 hw)) (Or.inr (wd239 hw)) (by decide) (t := (.object s39)) (t' := (.object s26)) (by decide) (by decide)))).other W24 (Or.inr (slot_ne (Or.inr (wd237 hw)) (Or.inr (wd241 hw)) (by decide) (t := (.object s39)) (t' := (.object s54)) (by decide) (by decide)))).other W27 (Or.inr (slot_ne (Or.inr (wd237 hw)) (Or.inr (wd243 hw)) (by decide) (t := (.object s39)) (t' := (.object s54)) (by decide) (by decide)))).other W30 (Or.inr (slot_ne (Or.inr (wd237 hw)) (Or.inr (wd245 hw)) (by decide) (t := (.object s39)) (t' := (.object s52)) (by decide) (by decide))))
  have fc33 := (((Fw21.other W24 (Or.inr (slot_ne (Or.inr (wd239 hw)) (Or.inr (wd241 hw)) (by decide) (t := (.object s26)) (t' := (.object s54)) (by decide) (by decide)))).other W27 (Or.inr (slot_ne (Or.inr (wd239 hw)) (Or.inr (wd243 hw)) (by decide) (t := (.object s26)) (t' := (.object s54)) (by decide) (by decide)))).other W30 (Or.inr (slot_ne (Or.inr (wd239 hw)) (Or.inr (wd245 hw)) (by decide) (t := (.object s26)) (t' := (.object s52)) (by decide) (by decide))))
  have fc34 := ((Fw24.other W27 (Or.inr (slot_ne (Or.inr (wd241 hw)) (Or.inr (wd243 hw)) (by decide) (t := (.object s54)) (t' := (.object s54)) (by decide) (by decide)))).other W30 (Or.inr (slot_ne (Or.inr (wd241 hw)) (Or.inr (wd245 hw)) (by decide) (t := (.object s54)) (t' := (.object s52)) (by decide) (by decide))))
  have fc35 := (Fw27.other W30 (Or.inr (slot_ne (Or.inr (wd243 hw)) (Or.inr (wd245 hw)) (by decide) (t := (.object s54)) (t' := (.object s52)) (by decide) (by decide))))
  have fc36 := ((((((u12_1.wr W15).wr W18).wr W21).wr W24).wr W27).wr W30)
  have nz37 := nl pr9.lt sz_b12_0
  have fc38 := ((((((u12_2.other W15 (Or.inl (Ne.symm nz37))).other W18 (Or.inl (Ne.symm nz37))).other W21 (Or.inl (Ne.symm nz37))).other W24 (Or.inl (Ne.symm nz37))).other W27 (Or.inl (Ne.symm nz37))).other W30 (Or.inl (Ne.symm nz37)))
  have fc39 := ((((((u12_3.other W15 (Or.inl (Ne.symm nz37))).other W18 (Or.inl (Ne.symm nz37))).other W21 (Or.inl (Ne.symm nz37))).other W24 (Or.inl (Ne.symm nz37))).other W27 (Or.inl (Ne.symm nz37))).other W30 (Or.inl (Ne.symm nz37)))
  refine ⟨none, _, _, _, _, _, X30, e30, by decide, fun _ => rfl, fun fs hr => ?_, ?_⟩
  · refine XS.aloadN X0.here hx rfl (hb hby d19_0) rfl rfl ?_
    show SS p e below s₁ m 1 #[rv a1, rv a2, rv a3, rv w4, .val .null, .val .null, rv a5] [(.ref a1)] _
    refine st6 _ ?_
    refine XS.aload X6.here hx rfl (hb hby d19_4) rfl rfl ?_
    refine st12 _ ?_
    refine XS.astore X12.here hx rfl (hb hby d19_9) rfl rfl (l' := #[rv a1, rv a2, rv a3, rv w4, .val .null, .val .null, rv b12_0]) rfl ?_
    refine XS.aloadN X12.here hx rfl (hb hby d19_11) rfl rfl ?_
    refine XS.aloadN X12.here hx rfl (hb hby d19_12) rfl rfl ?_
    refine st15 _ ?_
    refine XS.aloadN X15.here hx rfl (hb hby d19_16) rfl rfl ?_
    refine XS.aloadN X15.here hx rfl (hb hby d19_17) rfl rfl ?_
    refine st18 _ ?_
    show SS p e below T18 m 21 #[rv a1, rv a2, rv a3, rv w4, .val .null, .val .null, rv b12_0] [] _
    refine XS.aloadN X18.here hx rfl (hb hby d19_21) rfl rfl ?_
    refine XS.aloadN X18.here hx rfl (hb hby d19_22) rfl rfl ?_
    refine st21 _ ?_
    refine XS.aloadN X21.here hx rfl (hb hby d19_26) rfl rfl ?_
    refine XS.aload X21.here hx rfl (hb hby d19_27) rfl rfl ?_
    refine st24 _ ?_
    refine XS.aloadN X24.here hx rfl (hb hby d19_32) rfl rfl ?_
    refine XS.aload X24.here hx rfl (hb hby d19_33) rfl rfl ?_
    refine st27 _ ?_
    refine XS.aloadN X27.here hx rfl (hb hby d19_38) rfl rfl ?_
    show SS p e below T27 m 39 #[rv a1, rv a2, rv a3, rv w4, .val .null, .val .null, rv b12_0] [(.ref a1)] _
    refine XS.aload X27.here hx rfl (hb hby d19_39) rfl rfl ?_
    refine st30 _ ?_
    show SS p e below T30 m 44 #[rv a1, rv a2, rv a3, rv w4, .val .null, .val .null, rv b12_0] [] _
    exact X30.returnOut hx hret (hb hby d19_44) hr
  · exact ⟨b12_0, rfl, N30, KK30, sz_b12_0, fc31, fc32, fc33, fc34, fc35, Fw30, fc36, fc38, fc39⟩
theorem rm32_2 (l : Launch) (Z : State) (a0 : Array Value) (hw : HW a0 Z) (a1 a2 a4 a7 w10 a17 w18 a19 a20 : Addr) (k21 : ClassId) (h0 : Heap) (n0 : Nat) (OL0 : Old Z n0 h0) (pr1 : Fld Z h0 a1 s27 "id" s11 (.ref a4)) (pr2 : Fld Z h0 a1 s27 "name" s11 (.ref a7)) (pr3 : Fld Z h0 a1 s27 "basis" s9 (.ref w10)) (pr4 : Fld Z h0 a1 s27 "onlyFor" s16 .null) (pr5 : Fld Z h0 a1 s27 s24 s16 .null) (pr6 : Exa Z h0 a2 s44) (pr7 : Fld Z h0 a2 s44 "size" "I" (.int (2 : Int32))) (pr8 : Fld Z h0 a2 s44 s32 s21 (.ref a17)) (pr9 : MirM Z s21 w18) (pr10 : Exa Z h0 a17 s21) (pr11 : Arv Z h0 a17 k21 (.object s37) (10 : Int32) [(.ref a19), (.ref a20), .null, .null, .null, .null, .null, .null, .null, .null] .null) (pr12 : Exa Z h0 a20 s29) (pr13 : Exa Z h0 a19 s29) :
    MF l Z mn32 prog_22_method_2_code 2 (some (.object s27)) ⟨9, 3, 10, 120⟩ #[(.ref a1), (.ref a2)] h0 (fun v h L => ∃ b3 : Addr, ∃ b22_0 : Addr, v = some (.ref b3) ∧ Fr n0 L ∧ Keep h0 h [] ∧ h0.size ≤ b3 ∧ h0.size ≤ b22_0 ∧ b3 ≠ b22_0 ∧ Exa Z h b3 s27 ∧ Fld Z h b3 s27 "id" s11 (.ref a4) ∧ Fld Z h b3 s27 "name" s11 (.ref a7) ∧ Fld Z h b3 s27 "basis" s9 (.ref w10) ∧ Fld Z h b3 s27 "onlyFor" s16 .null ∧ Fld Z h b3 s27 s24 s16 .null ∧ Fld Z h b3 s27 "prices" s15 (.ref b22_0) ∧ Exa Z h b22_0 s50 ∧ Fld Z h b22_0 s50 "e0" s10 (.ref a19) ∧ Fld Z h b22_0 s50 "e1" s10 (.ref a20)) := by
  refine own_start (plainFor_of_name pn_10) (fun m => (ef_32_16 m a1 a2)) ?_
  intro p e s m below meth c s₁ hZ hx hby hml hown hnm hret X0 e0
  have N0 := Fr.nil n0
  obtain ⟨T3, h3, X3, e3, E3, A3, D3, -, st3⟩ := newO X0 hx hZ hown (wd251 hw) (wd142 hw) (wd143 hw) e0 (g := (mkF m 0 #[rv a1, rv a2] [])) rfl (hb hby d32_0) (by decide) (by decide)
  obtain ⟨b3, g3⟩ : ∃ z, z = h0.size := ⟨_, rfl⟩
  rw [← g3] at A3 D3 st3
  have g_b3 : n0 ≤ b3 := (Nat.le_trans (Nat.le_trans (Nat.le_of_eq OL0.1.symm) OL0.2.1) (Nat.le_of_eq g3.symm))
  have sz_b3 : h0.size ≤ b3 := (Nat.le_trans (Keep.refl h0 []).1 (Nat.le_of_eq g3.symm))
  have KK3 : Keep h0 h3 [] := (Keep.refl h0 []).ext E3
  have OL3 := OL0.ext E3
  have F_id_b3 : Fld Z h3 b3 s27 "id" s11 .null := D3 (Or.inr (wd235 hw)) (ty := (.object s39)) (by decide)
  have F_name_b3 : Fld Z h3 b3 s27 "name" s11 .null := D3 (Or.inr (wd237 hw)) (ty := (.object s39)) (by decide)
  have F_basis_b3 : Fld Z h3 b3 s27 "basis" s9 .null := D3 (Or.inr (wd239 hw)) (ty := (.object s26)) (by decide)
  have F_onlyFor_b3 : Fld Z h3 b3 s27 "onlyFor" s16 .null := D3 (Or.inr (wd241 hw)) (ty := (.object s54)) (by decide)
  have F_chargeFor_b3 : Fld Z h3 b3 s27 s24 s16 .null := D3 (Or.inr (wd243 hw)) (ty := (.object s54)) (by decide)
  have F_prices_b3 : Fld Z h3 b3 s27 "prices" s15 .null := D3 (Or.inr (wd245 hw)) (ty := (.object s52)) (by decide)
  have fc5 := (pr1.ext E3)
  obtain ⟨T6, X6, e6, st6⟩ := gF X3 hx hZ hown (wd234 hw) Via.refl e3 fc5 5 #[rv a1, rv a2] [(.ref b3), (.ref b3)] (hb hby d32_5)
  have fc8 := (pr2.ext E3)
  obtain ⟨T9, X9, e9, st9⟩ := gF X6 hx hZ hown (wd236 hw) Via.refl e6 fc8 9 #[rv a1, rv a2] [(.ref a4), (.ref b3), (.ref b3)] (hb hby d32_9)
  have fc11 := (pr3.ext E3)
  obtain ⟨T12, X12, e12, st12⟩ := gF X9 hx hZ hown (wd238 hw) Via.refl e9 fc11 13 #[rv a1, rv a2] [(.ref a7), (.ref a4), (.ref b3), (.ref b3)] (hb hby d32_13)
  have fc13 := (pr4.ext E3)
  obtain ⟨T14, X14, e14, st14⟩ := gF X12 hx hZ hown (wd240 hw) Via.refl e12 fc13 17 #[rv a1, rv a2] [(.ref w10), (.ref a7), (.ref a4), (.ref b3), (.ref b3)] (hb hby d32_17)
  have fc15 := (pr5.ext E3)
  obtain ⟨T16, X16, e16, st16⟩ := gF X14 hx hZ hown (wd242 hw) Via.refl e14 fc15 21 #[rv a1, rv a2] [.null, (.ref w10), (.ref a7), (.ref a4), (.ref b3), (.ref b3)] (hb hby d32_21)
  have fc23 := (pr6.ext E3)
  have fc24 := (pr7.ext E3)
  have fc25 := (pr8.ext E3)
  have fc26 := (pr10.ext E3)
  have fc27 := (pr11.ext E3)
  have fc28 := (pr12.ext E3)
  have fc29 := (pr13.ext E3)
  obtain ⟨_, T22, L22, X22, hQ22, st22⟩ := own_cN X16 hx hZ hown hml (cw17 hw) (rm19_2 l Z a0 hw b3 a4 a7 w10 a2 a17 w18 a19 a20 k21 h3 n0 OL3 fc23 fc24 fc25 pr9 fc26 fc27 fc28 fc29 A3 F_id_b3 g_b3 F_name_b3 F_basis_b3 F_onlyFor_b3 F_chargeFor_b3 F_prices_b3) e16 b3 25 #[rv a1, rv a2] [(.ref a4), (.ref a7), (.ref w10), .null, .null, (.ref a2)] [(.ref b3)] 1 rfl (hb hby d32_25) (by decide)
  obtain ⟨b22_0, rfl, Nq22, K22, u22_0, u22_1, u22_2, u22_3, u22_4, u22_5, u22_6, u22_7, u22_8, u22_9⟩ := hQ22
  have KK22 : Keep h0 T22.heap [] := KK3.trans K22 (allS (Or.inr sz_b3) all0)
  have sz_b22_0 : h0.size ≤ b22_0 := Nat.le_trans KK3.1 u22_0
  have N22 := Fr.app N0 Nq22
  have nz30 := nl F_prices_b3.lt u22_0
  have fc31 := (A3.keep K22)
  refine ⟨some (.ref b3), _, _, _, _, _, X22, rfl, by decide, nofun, fun fs hr => ?_, ?_⟩
  · refine st3 _ ?_
    show SS p e below T3 m 3 #[rv a1, rv a2] [(.ref b3)] _
    refine XS.dup X3.here hx rfl (hb hby d32_3) rfl rfl ?_
    refine XS.aloadN X3.here hx rfl (hb hby d32_4) rfl rfl ?_
    refine st6 _ ?_
    refine XS.aloadN X6.here hx rfl (hb hby d32_8) rfl rfl ?_
    refine st9 _ ?_
    refine XS.aloadN X9.here hx rfl (hb hby d32_12) rfl rfl ?_
    refine st12 _ ?_
    refine XS.aloadN X12.here hx rfl (hb hby d32_16) rfl rfl ?_
    refine st14 _ ?_
    refine XS.aloadN X14.here hx rfl (hb hby d32_20) rfl rfl ?_
    show SS p e below T14 m 21 #[rv a1, rv a2] [(.ref a1), .null, (.ref w10), (.ref a7), (.ref a4), (.ref b3), (.ref b3)] _
    refine st16 _ ?_
    refine XS.aloadN X16.here hx rfl (hb hby d32_24) rfl rfl ?_
    refine st22 _ ?_
    show SS p e below T22 m 28 #[rv a1, rv a2] [(.ref b3)] _
    exact own_retR X22 hx hret rfl rfl rfl (hb hby d32_28) hr
  · exact ⟨b3, b22_0, rfl, N22, KK22, sz_b3, sz_b22_0, nz30, fc31, u22_1, u22_2, u22_3, u22_4, u22_5, u22_6, u22_7, u22_8, u22_9⟩
theorem ef_15_49 (m : MethodId) (x0 : Addr) (x1 : Addr) (x2 : Addr) : entryFrame m #[(.ref x0), (.ref x1), (.ref x2), (.int (2 : Int32))] 4 = mkF m 0 #[.val (.ref x0), .val (.ref x1), .val (.ref x2), .val (.int (2 : Int32))] [] := by first | (simp [entryFrame, mkF, argsToLocals, Value.category]; done) | rfl
theorem rm15_2 (l : Launch) (Z : State) (a0 : Array Value) (hw : HW a0 Z) (a1 a2 a3 a4 a5 : Addr) (k6 : ClassId) (h0 : Heap) (n0 : Nat) (OL0 : Old Z n0 h0) (pr1 : Arv Z h0 a3 k6 (.object s37) (10 : Int32) [(.ref a4), (.ref a5), .null, .null, .null, .null, .null, .null, .null, .null] .null) (pr2 : n0 ≤ a3) (pr3 : Ovr Z k6 s37) (pr4 : Exa Z h0 a2 s29) (pr5 : Exa Z h0 a1 s44) (pr6 : Fld Z h0 a1 s44 "size" "I" (.int (2 : Int32))) (pr7 : a1 ≠ a3) (pr8 : n0 ≤ a1) (pr9 : Fld Z h0 a1 s43 s57 "I" (.int (3 : Int32))) (pr10 : Fld Z h0 a1 s44 s32 s21 (.ref a3)) (pr11 : a3 ≠ a1) :
    MF l Z mn15 jdk_38_method_24_code 4 none ⟨0, 0, 0, 0⟩ #[(.ref a1), (.ref a2), (.ref a3), (.int (2 : Int32))] h0 (fun v h L => v = none ∧ Fr n0 L ∧ Keep h0 h [a3, a1] ∧ Arv Z h a3 k6 (.object s37) (10 : Int32) [(.ref a4), (.ref a5), (.ref a2), .null, .null, .null, .null, .null, .null, .null] .null ∧ Fld Z h a1 s44 "size" "I" (.int (3 : Int32)) ∧ Fld Z h a1 s43 s57 "I" (.int (3 : Int32)) ∧ Fld Z h a1 s44 s32 s21 (.ref a3)) := by
  refine own_start (plainFor_of_name pn_6) (fun m => (ef_15_49 m a1 a2 a3)) ?_
  intro p e s m below meth c s₁ hZ hx hby hml hown hnm hret X0 e0
  have N0 := Fr.nil n0
  obtain ⟨cl7, Ar7, -, Sz7, Nn7, -, -⟩ := id pr1
  obtain ⟨cl8, Ar8, q8, S8, M8, Hs8, G8⟩ := id pr1
  have hin8 : ¬ ((2 : Int32) < 0 ∨ cl8.slots.size ≤ ((2 : Int32)).toNatClampNeg) := inb_of S8 ⟨by decide, by decide⟩
  obtain ⟨T9, h9, X9, e9, W9, st9⟩ := stR X0 hx hZ e0 Ar8 (j := (2 : Int32)) hin8 rfl (Sto.ofV Ar8 q8 pr3 (Ins.of_exa pr4 (wd140 hw))) (g := (mkF m 14 #[rv a1, rv a2, rv a3, iv (2 : Int32)] [(.ref a2), (.int (2 : Int32)), (.ref a3)])) rfl rfl (hb hby d15_14)
  have V9 : Arv Z h9 a3 k6 (.object s37) (10 : Int32) [(.ref a4), (.ref a5), (.ref a2), .null, .null, .null, .null, .null, .null, .null] .null := Arv.set Ar8 q8 S8 M8 Hs8 G8 rfl W9 2 rfl (Nat.le_of_ble_eq_true rfl)
  have KK9 : Keep h0 h9 [a3, a1] := (Keep.refl h0 [a3, a1]).wr W9 (Or.inl (List.mem_of_getElem? (i := 0) rfl))
  have N9 := Fr.snoc X9 N0 pr2
  have fc10 := (pr5.wr W9)
  have fc11 := (pr6.other W9 (Or.inl pr7))
  obtain ⟨T12, h12, X12, e12, W12, st12⟩ := putF X9 hx hZ hown (host := "") (Or.inl (wd117 hw)) Via.refl e9 fc11 fc10 (Or.inl (wd118 hw)) (wd84 hw) (ty := .int) (by decide) rfl rfl (g := (mkF m 19 #[rv a1, rv a2, rv a3, iv (2 : Int32)] [(.int (3 : Int32)), (.ref a1)])) rfl rfl (hb hby d15_19)
  have Fw12 := fc11.same W12
  have KK12 : Keep h0 h12 [a3, a1] := KK9.wr W12 (Or.inl (List.mem_of_getElem? (i := 1) rfl))
  have N12 := Fr.snoc X12 N9 pr8
  have fc13 := ((pr9.other W9 (Or.inl pr7)).other W12 (Or.inr (slot_ne (Or.inl (wd103 hw)) (Or.inl (wd118 hw)) (by decide) (t := .int) (t' := .int) (by decide) (by decide))))
  have fc14 := ((pr10.other W9 (Or.inl pr7)).other W12 (Or.inr (slot_ne (Or.inl (wd106 hw)) (Or.inl (wd118 hw)) (by decide) (t := (.array (.object s37))) (t' := .int) (by decide) (by decide))))
  have fc15 := (V9.other W12 pr11)
  refine ⟨none, _, _, _, _, _, X12, e12, by decide, fun _ => rfl, fun fs hr => ?_, ?_⟩
  · refine XS.iloadN X0.here hx rfl (hb hby d15_0) rfl ?_
    show SS p e below s₁ m 1 #[rv a1, rv a2, rv a3, iv (2 : Int32)] [(.int (2 : Int32))] _
    refine XS.aloadN X0.here hx rfl (hb hby d15_1) rfl rfl ?_
    refine X0.arraylength hx (by rw [e0]; exact Ar7.1) (State.isArrayOf_alike hZ.alike Ar7.2.1) (g := (mkF m 2 #[rv a1, rv a2, rv a3, iv (2 : Int32)] [(.ref a3), (.int (2 : Int32))])) rfl rfl (hb hby d15_2) _ ?_
    rw [len_of Sz7 Nn7]
    refine XS.icmpYes X0.here hx rfl (pc0 := 3) (pc' := 11) rfl (hb hby d15_3) rfl (feq (by decide : ¬ ((2 : Int32) = (10 : Int32)))).2 (by decide) (by decide) ?_
    refine XS.aloadN X0.here hx rfl (hb hby d15_11) rfl rfl ?_
    refine XS.iloadN X0.here hx rfl (hb hby d15_12) rfl ?_
    refine XS.aloadN X0.here hx rfl (hb hby d15_13) rfl rfl ?_
    refine st9 _ ?_
    refine XS.aloadN X9.here hx rfl (hb hby d15_15) rfl rfl ?_
    refine XS.iloadN X9.here hx rfl (hb hby d15_16) rfl ?_
    refine XS.iconst X9.here hx rfl (hb hby d15_17) ?_
    show SS p e below T9 m 18 #[rv a1, rv a2, rv a3, iv (2 : Int32)] [(.int (1 : Int32)), (.int (2 : Int32)), (.ref a1)] _
    refine XS.iadd X9.here hx rfl (hb hby d15_18) rfl ?_
    refine st12 _ ?_
    show SS p e below T12 m 22 #[rv a1, rv a2, rv a3, iv (2 : Int32)] [] _
    exact X12.returnOut hx hret (hb hby d15_22) hr
  · exact ⟨rfl, N12, KK12, fc15, Fw12, fc13, fc14⟩
theorem rm14_2 (l : Launch) (Z : State) (a0 : Array Value) (hw : HW a0 Z) (a1 a2 a5 a10 a11 : Addr) (k12 : ClassId) (h0 : Heap) (n0 : Nat) (OL0 : Old Z n0 h0) (pr1 : Fld Z h0 a1 s43 s57 "I" (.int (2 : Int32))) (pr2 : Exa Z h0 a1 s44) (pr3 : n0 ≤ a1) (pr4 : Fld Z h0 a1 s44 s32 s21 (.ref a5)) (pr5 : Fld Z h0 a1 s44 "size" "I" (.int (2 : Int32))) (pr6 : Arv Z h0 a5 k12 (.object s37) (10 : Int32) [(.ref a10), (.ref a11), .null, .null, .null, .null, .null, .null, .null, .null] .null) (pr7 : a5 ≠ a1) (pr8 : n0 ≤ a5) (pr9 : Ovr Z k12 s37) (pr10 : Exa Z h0 a2 s29) (pr11 : a1 ≠ a5) :
    MF l Z mn14 jdk_38_method_25_code 2 (some .boolean) ⟨1, 0, 0, 15⟩ #[(.ref a1), (.ref a2)] h0 (fun v h L => v = some (.int (1 : Int32)) ∧ Fr n0 L ∧ Keep h0 h [a1, a5] ∧ Fld Z h a1 s43 s57 "I" (.int (3 : Int32)) ∧ Fld Z h a1 s44 s32 s21 (.ref a5) ∧ Fld Z h a1 s44 "size" "I" (.int (3 : Int32)) ∧ Arv Z h a5 k12 (.object s37) (10 : Int32) [(.ref a10), (.ref a11), (.ref a2), .null, .null, .null, .null, .null, .null, .null] .null) := by
  refine own_start (plainFor_of_name pn_6) (fun m => (ef_14_21 m a1 a2)) ?_
  intro p e s m below meth c s₁ hZ hx hby hml hown hnm hret X0 e0
  have N0 := Fr.nil n0
  obtain ⟨T3, X3, e3, st3⟩ := gF X0 hx hZ hown (wd115 hw) (Via.of (wd116 hw)) e0 pr1 2 #[rv a1, rv a2] [(.ref a1)] (hb hby d14_2)
  obtain ⟨T4, h4, X4, e4, W4, st4⟩ := putF X3 hx hZ hown (host := "") (Or.inl (wd115 hw)) (Via.of (wd116 hw)) e3 pr1 pr2 (Or.inl (wd103 hw)) (wd84 hw) (ty := .int) (by decide) rfl rfl (g := (mkF m 7 #[rv a1, rv a2] [(.int (3 : Int32)), (.ref a1)])) rfl rfl (hb hby d14_7)
  have Fw4 := pr1.same W4
  have KK4 : Keep h0 h4 [a1, a5] := (Keep.refl h0 [a1, a5]).wr W4 (Or.inl (List.mem_of_getElem? (i := 0) rfl))
  have OL4 := OL0.wr W4 pr3
  have N4 := Fr.snoc X4 N0 pr3
  have fc6 := (pr4.other W4 (Or.inr (slot_ne (Or.inl (wd106 hw)) (Or.inl (wd103 hw)) (by decide) (t := (.array (.object s37))) (t' := .int) (by decide) (by decide))))
  obtain ⟨T7, X7, e7, st7⟩ := gF X4 hx hZ hown (wd105 hw) Via.refl e4 fc6 13 #[rv a1, rv a2] [(.ref a2), (.ref a1)] (hb hby d14_13)
  have fc8 := (pr5.other W4 (Or.inr (slot_ne (Or.inl (wd118 hw)) (Or.inl (wd103 hw)) (by decide) (t := .int) (t' := .int) (by decide) (by decide))))
  obtain ⟨T9, X9, e9, st9⟩ := gF X7 hx hZ hown (wd117 hw) Via.refl e7 fc8 17 #[rv a1, rv a2] [(.ref a5), (.ref a2), (.ref a1)] (hb hby d14_17)
  have fc14 := (pr6.other W4 pr7)
  have fc15 := (pr10.wr W4)
  have fc16 := (pr2.wr W4)
  obtain ⟨_, T13, L13, X13, hQ13, st13⟩ := own_cP X9 hx hZ hown hml (cw22 hw) (rm15_2 l Z a0 hw a1 a2 a5 a10 a11 k12 h4 n0 OL4 fc14 pr8 pr9 fc15 fc16 fc8 pr11 pr3 Fw4 fc6 pr7) e9 fc16 20 #[rv a1, rv a2] [(.ref a2), (.ref a5), (.int (2 : Int32))] [] 0 rfl (hb hby d14_20) (by decide)
  obtain ⟨rfl, Nq13, K13, u13_0, u13_1, u13_2, u13_3⟩ := hQ13
  have KK13 : Keep h0 T13.heap [a1, a5] := KK4.trans K13 (allS (Or.inl (List.mem_of_getElem? (i := 1) rfl)) (allS (Or.inl (List.mem_of_getElem? (i := 0) rfl)) all0))
  have N13 := Fr.app N4 Nq13
  refine ⟨some (.int (1 : Int32)), _, _, _, _, _, X13, rfl, by decide, nofun, fun fs hr => ?_, ?_⟩
  · refine XS.aloadN X0.here hx rfl (hb hby d14_0) rfl rfl ?_
    show SS p e below s₁ m 1 #[rv a1, rv a2] [(.ref a1)] _
    refine XS.dup X0.here hx rfl (hb hby d14_1) rfl rfl ?_
    refine st3 _ ?_
    refine XS.iconst X3.here hx rfl (hb hby d14_5) ?_
    refine XS.iadd X3.here hx rfl (hb hby d14_6) rfl ?_
    refine st4 _ ?_
    refine XS.aloadN X4.here hx rfl (hb hby d14_10) rfl rfl ?_
    refine XS.aloadN X4.here hx rfl (hb hby d14_11) rfl rfl ?_
    refine XS.aloadN X4.here hx rfl (hb hby d14_12) rfl rfl ?_
    refine st7 _ ?_
    refine XS.aloadN X7.here hx rfl (hb hby d14_16) rfl rfl ?_
    show SS p e below T7 m 17 #[rv a1, rv a2] [(.ref a1), (.ref a5), (.ref a2), (.ref a1)] _
    refine st9 _ ?_
    refine st13 _ ?_
    refine XS.iconst X13.here hx rfl (hb hby d14_23) ?_
    show SS p e below T13 m 24 #[rv a1, rv a2] [(.int (1 : Int32))] _
    exact retN X13 hx (t := .boolean) hret (by simp) (hb hby d14_24) hr
  · exact ⟨rfl, N13, KK13, u13_2, u13_3, u13_1, u13_0⟩
theorem d43_10 : DC cb43 10 (.iconst 2) 1 := by decide +kernel
theorem d43_11 : DC cb43 11 (.goto 4) 3 := by decide +kernel
theorem rm43_1 (l : Launch) (Z : State) (a0 : Array Value) (hw : HW a0 Z) (a1 a2 w4 : Addr) (h0 : Heap) (n0 : Nat) (OL0 : Old Z n0 h0) (pr1 : Fld Z h0 a1 s50 "e1" s10 (.ref a2)) (pr2 : Sta Z Z.heap s47 "EMPTY" s10 (.ref w4)) (pr3 : Exa Z Z.heap w4 s37) (pr4 : n0 ≤ a2) :
    MF l Z mn43 jdk_44_method_3_code 1 (some .int) ⟨0, 0, 0, 0⟩ #[(.ref a1)] h0 (QR n0 h0 (some (.int (2 : Int32)))) := by
  refine own_start (plainFor_of_name pn_16) (fun m => (ef_43_42 m a1)) ?_
  intro p e s m below meth c s₁ hZ hx hby hml hown hnm hret X0 e0
  have N0 := Fr.nil n0
  obtain ⟨T3, X3, e3, st3⟩ := gF X0 hx hZ hown (wd232 hw) Via.refl e0 pr1 1 #[rv a1] [] (hb hby d43_1)
  obtain ⟨T5, X5, e5, st5⟩ := getS2 X3 hx hZ hown (Or.inr (wd231 hw)) Via.refl e3 (pr2.ext OL0.2) (g := (mkF m 4 #[rv a1] [(.ref a2)])) rfl (hb hby d43_4)
  have nz6 : w4 ≠ a2 := (OL0.ne pr3.lt pr4)
  refine ⟨some (.int (2 : Int32)), _, _, _, _, _, X5, e5, by decide, nofun, fun fs hr => ?_, ?_⟩
  · refine XS.aloadN X0.here hx rfl (hb hby d43_0) rfl rfl ?_
    show SS p e below s₁ m 1 #[rv a1] [(.ref a1)] _
    refine st3 _ ?_
    refine st5 _ ?_
    refine Jvm.RoadKit.acmp (g := (mkF m 7 #[rv a1] [(.ref w4), (.ref a2)])) X5 hx rfl rfl rfl (pc0 := 7) (pc' := 10) (same := false) rfl (hb hby d43_7) rfl (decide_eq_false fun q => (Ne.symm nz6) (Value.ref.inj q)) (by decide) (by decide) ?_
    refine XS.iconst X5.here hx rfl (hb hby d43_10) ?_
    refine XS.goto X5.here hx rfl (pc0 := 11) (pc' := 15) rfl (hb hby d43_11) (by decide) (by decide) ?_
    show SS p e below T5 m 15 #[rv a1] [(.int (2 : Int32))] _
    exact retI X5 hx hret (hb hby d43_15) hr
  · exact ⟨rfl, N0, rfl⟩
theorem d41_48 : DC cb41 48 (.aload_n 0) 1 := by decide +kernel
theorem d41_49 : DC cb41 49 (.iconst 1) 1 := by decide +kernel
theorem d41_50 : DC cb41 50 (.invokeinterface 26 2) 5 := by decide +kernel
theorem d44_9 : DC cb44 9 (.iload_n 1) 1 := by decide +kernel
theorem d44_10 : DC cb44 10 (.iconst 1) 1 := by decide +kernel
theorem d44_11 : DC cb44 11 (.if_icmp .ne 18) 3 := by decide +kernel
theorem d44_14 : DC cb44 14 (.aload_n 0) 1 := by decide +kernel
theorem d44_15 : DC cb44 15 (.getfield 24) 3 := by decide +kernel
theorem d44_18 : DC cb44 18 (.getstatic 19) 3 := by decide +kernel
theorem d44_21 : DC cb44 21 (.if_acmp .eq 8) 3 := by decide +kernel
theorem d44_24 : DC cb44 24 (.aload_n 0) 1 := by decide +kernel
theorem d44_25 : DC cb44 25 (.getfield 24) 3 := by decide +kernel
theorem d44_28 : DC cb44 28 (.areturn) 1 := by decide +kernel
theorem ef_44_50 (m : MethodId) (x0 : Addr) : entryFrame m #[(.ref x0), (.int (1 : Int32))] 2 = mkF m 0 #[.val (.ref x0), .val (.int (1 : Int32))] [] := by first | (simp [entryFrame, mkF, argsToLocals, Value.category]; done) | rfl
theorem rm44_1 (l : Launch) (Z : State) (a0 : Array Value) (hw : HW a0 Z) (a1 a2 w4 : Addr) (h0 : Heap) (n0 : Nat) (OL0 : Old Z n0 h0) (pr1 : Fld Z h0 a1 s50 "e1" s10 (.ref a2)) (pr2 : Sta Z Z.heap s47 "EMPTY" s10 (.ref w4)) (pr3 : Exa Z Z.heap w4 s37) (pr4 : n0 ≤ a2) :
    MF l Z mn44 jdk_44_method_5_code 2 (some (.object s37)) ⟨0, 0, 0, 0⟩ #[(.ref a1), (.int (1 : Int32))] h0 (QR n0 h0 (some (.ref a2))) := by
  refine own_start (plainFor_of_name pn_16) (fun m => (ef_44_50 m a1)) ?_
  intro p e s m below meth c s₁ hZ hx hby hml hown hnm hret X0 e0
  have N0 := Fr.nil n0
  obtain ⟨T3, X3, e3, st3⟩ := gF X0 hx hZ hown (wd232 hw) Via.refl e0 pr1 15 #[rv a1, iv (1 : Int32)] [] (hb hby d44_15)
  obtain ⟨T5, X5, e5, st5⟩ := getS2 X3 hx hZ hown (Or.inr (wd231 hw)) Via.refl e3 (pr2.ext OL0.2) (g := (mkF m 18 #[rv a1, iv (1 : Int32)] [(.ref a2)])) rfl (hb hby d44_18)
  have nz6 : w4 ≠ a2 := (OL0.ne pr3.lt pr4)
  obtain ⟨T7, X7, e7, st7⟩ := gF X5 hx hZ hown (wd232 hw) Via.refl e5 pr1 25 #[rv a1, iv (1 : Int32)] [] (hb hby d44_25)
  refine ⟨some (.ref a2), _, _, _, _, _, X7, e7, by decide, nofun, fun fs hr => ?_, ?_⟩
  · refine XS.iloadN X0.here hx rfl (hb hby d44_0) rfl ?_
    show SS p e below s₁ m 1 #[rv a1, iv (1 : Int32)] [(.int (1 : Int32))] _
    refine XS.ifYes X0.here hx rfl (pc0 := 1) (pc' := 9) rfl (hb hby d44_1) rfl ((if0 _ _).trans (feq (by decide : ¬ ((1 : Int32) = (0 : Int32)))).2) (by decide) (by decide) ?_
    refine XS.iloadN X0.here hx rfl (hb hby d44_9) rfl ?_
    refine XS.iconst X0.here hx rfl (hb hby d44_10) ?_
    refine XS.icmpNo X0.here hx rfl (hb hby d44_11) rfl (teq (rfl : (1 : Int32) = (1 : Int32))).2 ?_
    refine XS.aloadN X0.here hx rfl (hb hby d44_14) rfl rfl ?_
    refine st3 _ ?_
    refine st5 _ ?_
    refine Jvm.RoadKit.acmp (g := (mkF m 21 #[rv a1, iv (1 : Int32)] [(.ref w4), (.ref a2)])) X5 hx rfl rfl rfl (pc0 := 21) (pc' := 24) (same := false) rfl (hb hby d44_21) rfl (decide_eq_false fun q => (Ne.symm nz6) (Value.ref.inj q)) (by decide) (by decide) ?_
    refine XS.aloadN X5.here hx rfl (hb hby d44_24) rfl rfl ?_
    refine st7 _ ?_
    show SS p e below T7 m 28 #[rv a1, iv (1 : Int32)] [(.ref a2)] _
    exact own_retR X7 hx hret rfl rfl rfl (hb hby d44_28) hr
  · exact ⟨rfl, N0, rfl⟩
theorem d41_55 : DC cb41 55 (.iload_n 1) 1 := by decide +kernel
theorem d41_56 : DC cb41 56 (.iconst 1) 1 := by decide +kernel
theorem d41_57 : DC cb41 57 (.aload_n 2) 1 := by decide +kernel
theorem d41_58 : DC cb41 58 (.aload_n 3) 1 := by decide +kernel
theorem d41_59 : DC cb41 59 (.invokestatic 10) 3 := by decide +kernel
theorem d41_62 : DC cb41 62 (.if_acmp .eq 5) 3 := by decide +kernel
theorem rm41_2 (l : Launch) (Z : State) (a0 : Array Value) (hw : HW a0 Z) (a1 : Addr) (p2 : Int32) (a3 a4 a5 w6 a8 : Addr) (h0 : Heap) (n0 : Nat) (OL0 : Old Z n0 h0) (pr1 : (p2 &&& (3 : Int32)) = (2 : Int32)) (pr2 : Fld Z h0 a1 s50 "e1" s10 (.ref a5)) (pr3 : Sta Z Z.heap s47 "EMPTY" s10 (.ref w6)) (pr4 : Exa Z Z.heap w6 s37) (pr5 : n0 ≤ a5) (pr6 : Exa Z h0 a1 s50) (pr7 : Fld Z h0 a1 s50 "e0" s10 (.ref a8)) (pr8 : (if (((p2.toUInt32 >>> ((2 : Int32) &&& 31).toUInt32).toInt32) &&& (1 : Int32)) = (0 : Int32) then a3 else a4) = a8) (pr9 : (if (((p2.toUInt32 >>> ((3 : Int32) &&& 31).toUInt32).toInt32) &&& (1 : Int32)) = (0 : Int32) then a3 else a4) = a5) :
    MF l Z mn41 method_4_code 5 (some .boolean) ⟨1, 0, 0, 16⟩ #[(.ref a1), (.int p2), (.ref a3), (.ref a4)] h0 (QR n0 h0 (some (.int (1 : Int32)))) := by
  refine own_start (plainFor_of_name pn_7) (fun m => (ef_41_30 m a1 p2 a3 a4)) ?_
  intro p e s m below meth c s₁ hZ hx hby hml hown hnm hret X0 e0
  have N0 := Fr.nil n0
  obtain ⟨_, T7, L7, X7, hQ7, st7⟩ := own_cI X0 hx hZ hown hml (cw44 hw) (rm43_1 l Z a0 hw a1 a5 w6 h0 n0 OL0 pr2 pr3 pr4 pr5) e0 pr6 6 #[rv a1, iv p2, rv a3, rv a4, iv (2 : Int32)] [] [] 0 rfl (hb hby d41_6) (by decide)
  obtain ⟨rfl, Nq7, ec7⟩ := hQ7
  have N7 := Fr.app N0 Nq7
  obtain ⟨_, T9, L9, X9, hQ9, st9⟩ := own_cI X7 hx hZ hown hml (cw45 hw) (rm44_0 l Z a0 hw a1 a8 h0 n0 OL0 pr7) ec7 pr6 25 #[rv a1, iv p2, rv a3, rv a4, iv (2 : Int32)] [(.int (0 : Int32))] [] 0 rfl (hb hby d41_25) (by decide)
  obtain ⟨rfl, Nq9, ec9⟩ := hQ9
  have N9 := Fr.app N7 Nq9
  obtain ⟨_, T10, L10, X10, hQ10, st10⟩ := own_cS X9 hx hZ hown hml (cw33 hw) (mg_pick0 l Z a0 hw p2 a3 a4 a8 h0 n0 OL0 pr8) ec9 34 #[rv a1, iv p2, rv a3, rv a4, iv (2 : Int32)] [(.int p2), (.int (0 : Int32)), (.ref a3), (.ref a4)] [(.ref a8)] 1 rfl (hb hby d41_34) (by decide)
  obtain ⟨rfl, Nq10, ec10⟩ := hQ10
  have N10 := Fr.app N9 Nq10
  obtain ⟨_, T11, L11, X11, hQ11, st11⟩ := own_cI X10 hx hZ hown hml (cw45 hw) (rm44_1 l Z a0 hw a1 a5 w6 h0 n0 OL0 pr2 pr3 pr4 pr5) ec10 pr6 50 #[rv a1, iv p2, rv a3, rv a4, iv (2 : Int32)] [(.int (1 : Int32))] [] 0 rfl (hb hby d41_50) (by decide)
  obtain ⟨rfl, Nq11, ec11⟩ := hQ11
  have N11 := Fr.app N10 Nq11
  obtain ⟨_, T12, L12, X12, hQ12, st12⟩ := own_cS X11 hx hZ hown hml (cw33 hw) (mg_pick1 l Z a0 hw p2 a3 a4 a5 h0 n0 OL0 pr9) ec11 59 #[rv a1, iv p2, rv a3, rv a4, iv (2 : Int32)] [(.int p2), (.int (1 : Int32)), (.ref a3), (.ref a4)] [(.ref a5)] 1 rfl (hb hby d41_59) (by decide)
  obtain ⟨rfl, Nq12, ec12⟩ := hQ12
  have N12 := Fr.app N11 Nq12
  refine ⟨some (.int (1 : Int32)), _, _, _, _, _, X12, ec12, by decide, nofun, fun fs hr => ?_, ?_⟩
  · refine XS.iloadN X0.here hx rfl (hb hby d41_0) rfl ?_
    show SS p e below s₁ m 1 #[rv a1, iv p2, rv a3, rv a4, uu] [(.int p2)] _
    refine XS.iconst X0.here hx rfl (hb hby d41_1) ?_
    refine XS.iand X0.here hx rfl (hb hby d41_2) rfl ?_
    show SS p e below s₁ m 3 #[rv a1, iv p2, rv a3, rv a4, uu] [(.int (p2 &&& (3 : Int32)))] _
    rw [pr1]
    refine XS.istore X0.here hx rfl (hb hby d41_3) rfl (l' := #[rv a1, iv p2, rv a3, rv a4, iv (2 : Int32)]) rfl ?_
    refine XS.aloadN X0.here hx rfl (hb hby d41_5) rfl rfl ?_
    refine st7 _ ?_
    refine XS.iload X7.here hx rfl (hb hby d41_11) rfl ?_
    refine XS.icmpYes X7.here hx rfl (pc0 := 13) (pc' := 18) rfl (hb hby d41_13) rfl (teq (rfl : (2 : Int32) = (2 : Int32))).1 (by decide) (by decide) ?_
    refine XS.iload X7.here hx rfl (hb hby d41_18) rfl ?_
    refine XS.ifNo X7.here hx rfl (hb hby d41_20) rfl ((if0 _ _).trans (tlt (by decide : (0 : Int32) < (2 : Int32))).2.2.2) ?_
    refine XS.aloadN X7.here hx rfl (hb hby d41_23) rfl rfl ?_
    show SS p e below T7 m 24 #[rv a1, iv p2, rv a3, rv a4, iv (2 : Int32)] [(.ref a1)] _
    refine XS.iconst X7.here hx rfl (hb hby d41_24) ?_
    refine st9 _ ?_
    refine XS.iloadN X9.here hx rfl (hb hby d41_30) rfl ?_
    refine XS.iconst X9.here hx rfl (hb hby d41_31) ?_
    refine XS.aloadN X9.here hx rfl (hb hby d41_32) rfl rfl ?_
    refine XS.aloadN X9.here hx rfl (hb hby d41_33) rfl rfl ?_
    refine st10 _ ?_
    refine Jvm.RoadKit.acmp (g := (mkF m 37 #[rv a1, iv p2, rv a3, rv a4, iv (2 : Int32)] [(.ref a8), (.ref a8)])) X10 hx rfl rfl rfl (pc0 := 37) (pc' := 42) (same := true) rfl (hb hby d41_37) rfl (decide_eq_true rfl) (by decide) (by decide) ?_
    refine XS.iload X10.here hx rfl (hb hby d41_42) rfl ?_
    refine XS.iconst X10.here hx rfl (hb hby d41_44) ?_
    show SS p e below T10 m 45 #[rv a1, iv p2, rv a3, rv a4, iv (2 : Int32)] [(.int (1 : Int32)), (.int (2 : Int32))] _
    refine XS.icmpNo X10.here hx rfl (hb hby d41_45) rfl (tlt (by decide : (1 : Int32) < (2 : Int32))).2.2.2 ?_
    refine XS.aloadN X10.here hx rfl (hb hby d41_48) rfl rfl ?_
    refine XS.iconst X10.here hx rfl (hb hby d41_49) ?_
    refine st11 _ ?_
    refine XS.iloadN X11.here hx rfl (hb hby d41_55) rfl ?_
    refine XS.iconst X11.here hx rfl (hb hby d41_56) ?_
    refine XS.aloadN X11.here hx rfl (hb hby d41_57) rfl rfl ?_
    refine XS.aloadN X11.here hx rfl (hb hby d41_58) rfl rfl ?_
    refine st12 _ ?_
    refine Jvm.RoadKit.acmp (g := (mkF m 62 #[rv a1, iv p2, rv a3, rv a4, iv (2 : Int32)] [(.ref a5), (.ref a5)])) X12 hx rfl rfl rfl (pc0 := 62) (pc' := 67) (same := true) rfl (hb hby d41_62) rfl (decide_eq_true rfl) (by decide) (by decide) ?_
    show SS p e below T12 m 67 #[rv a1, iv p2, rv a3, rv a4, iv (2 : Int32)] [] _
    refine XS.iload X12.here hx rfl (hb hby d41_67) rfl ?_
    refine XS.iconst X12.here hx rfl (hb hby d41_69) ?_
    refine XS.icmpYes X12.here hx rfl (pc0 := 70) (pc' := 92) rfl (hb hby d41_70) rfl (flt (by decide : ¬ ((2 : Int32) < (2 : Int32)))).2.2.2 (by decide) (by decide) ?_
    refine XS.iconst X12.here hx rfl (hb hby d41_92) ?_
    show SS p e below T12 m 93 #[rv a1, iv p2, rv a3, rv a4, iv (2 : Int32)] [(.int (1 : Int32))] _
    exact retN X12 hx (t := .boolean) hret (by simp) (hb hby d41_93) hr
  · exact ⟨rfl, N12, rfl⟩
theorem d9_53 : DC cb9 53 (.aload 4) 2 := by decide +kernel
theorem d9_55 : DC cb9 55 (.iload_n 0) 1 := by decide +kernel
theorem d9_56 : DC cb9 56 (.iconst 2) 1 := by decide +kernel
theorem d9_57 : DC cb9 57 (.aload_n 1) 1 := by decide +kernel
theorem d9_58 : DC cb9 58 (.aload_n 2) 1 := by decide +kernel
theorem d9_59 : DC cb9 59 (.invokestatic 10) 3 := by decide +kernel
theorem ef_13_51 (m : MethodId) (x0 : Int32) (x2 : Addr) (x3 : Addr) : entryFrame m #[(.int x0), (.int (2 : Int32)), (.ref x2), (.ref x3)] 4 = mkF m 0 #[.val (.int x0), .val (.int (2 : Int32)), .val (.ref x2), .val (.ref x3)] [] := by first | (simp [entryFrame, mkF, argsToLocals, Value.category]; done) | rfl
theorem rm13_4 (l : Launch) (Z : State) (a0 : Array Value) (hw : HW a0 Z) (p1 : Int32) (a2 a3 : Addr) (h0 : Heap) (n0 : Nat) (OL0 : Old Z n0 h0) (pr1 : ¬ ((((p1.toUInt32 >>> ((4 : Int32) &&& 31).toUInt32).toInt32) &&& (1 : Int32)) = (0 : Int32))) :
    MF l Z mn13 method_2_code 4 (some (.object s29)) ⟨0, 0, 0, 0⟩ #[(.int p1), (.int (2 : Int32)), (.ref a2), (.ref a3)] h0 (QR n0 h0 (some (.ref a3))) := by
  refine own_start (plainFor_of_name pn_7) (fun m => (ef_13_51 m p1 a2 a3)) ?_
  intro p e s m below meth c s₁ hZ hx hby hml hown hnm hret X0 e0
  have N0 := Fr.nil n0
  refine ⟨some (.ref a3), _, _, _, _, _, X0, e0, by decide, nofun, fun fs hr => ?_, ?_⟩
  · refine XS.iloadN X0.here hx rfl (hb hby d13_0) rfl ?_
    show SS p e below s₁ m 1 #[iv p1, iv (2 : Int32), rv a2, rv a3] [(.int p1)] _
    refine XS.iconst X0.here hx rfl (hb hby d13_1) ?_
    refine XS.iloadN X0.here hx rfl (hb hby d13_2) rfl ?_
    refine XS.iadd X0.here hx rfl (hb hby d13_3) rfl ?_
    refine XS.iushr X0.here hx rfl (hb hby d13_4) rfl ?_
    refine XS.iconst X0.here hx rfl (hb hby d13_5) ?_
    refine XS.iand X0.here hx rfl (hb hby d13_6) rfl ?_
    refine XS.ifYes X0.here hx rfl (pc0 := 7) (pc' := 14) rfl (hb hby d13_7) rfl ((if0 _ _).trans (feq pr1).2) (by decide) (by decide) ?_
    refine XS.aloadN X0.here hx rfl (hb hby d13_14) rfl rfl ?_
    show SS p e below s₁ m 15 #[iv p1, iv (2 : Int32), rv a2, rv a3] [(.ref a3)] _
    exact own_retR X0 hx hret rfl rfl rfl (hb hby d13_15) hr
  · exact ⟨rfl, N0, rfl⟩
theorem rm13_5 (l : Launch) (Z : State) (a0 : Array Value) (hw : HW a0 Z) (p1 : Int32) (a2 a3 : Addr) (h0 : Heap) (n0 : Nat) (OL0 : Old Z n0 h0) (pr1 : (((p1.toUInt32 >>> ((4 : Int32) &&& 31).toUInt32).toInt32) &&& (1 : Int32)) = (0 : Int32)) :
    MF l Z mn13 method_2_code 4 (some (.object s29)) ⟨0, 0, 0, 0⟩ #[(.int p1), (.int (2 : Int32)), (.ref a2), (.ref a3)] h0 (QR n0 h0 (some (.ref a2))) := by
  refine own_start (plainFor_of_name pn_7) (fun m => (ef_13_51 m p1 a2 a3)) ?_
  intro p e s m below meth c s₁ hZ hx hby hml hown hnm hret X0 e0
  have N0 := Fr.nil n0
  refine ⟨some (.ref a2), _, _, _, _, _, X0, e0, by decide, nofun, fun fs hr => ?_, ?_⟩
  · refine XS.iloadN X0.here hx rfl (hb hby d13_0) rfl ?_
    show SS p e below s₁ m 1 #[iv p1, iv (2 : Int32), rv a2, rv a3] [(.int p1)] _
    refine XS.iconst X0.here hx rfl (hb hby d13_1) ?_
    refine XS.iloadN X0.here hx rfl (hb hby d13_2) rfl ?_
    refine XS.iadd X0.here hx rfl (hb hby d13_3) rfl ?_
    refine XS.iushr X0.here hx rfl (hb hby d13_4) rfl ?_
    refine XS.iconst X0.here hx rfl (hb hby d13_5) ?_
    refine XS.iand X0.here hx rfl (hb hby d13_6) rfl ?_
    refine XS.ifNo X0.here hx rfl (hb hby d13_7) rfl ((if0 _ _).trans (teq pr1).2) ?_
    refine XS.aloadN X0.here hx rfl (hb hby d13_10) rfl rfl ?_
    refine XS.goto X0.here hx rfl (pc0 := 11) (pc' := 15) rfl (hb hby d13_11) (by decide) (by decide) ?_
    show SS p e below s₁ m 15 #[iv p1, iv (2 : Int32), rv a2, rv a3] [(.ref a2)] _
    exact own_retR X0 hx hret rfl rfl rfl (hb hby d13_15) hr
  · exact ⟨rfl, N0, rfl⟩
theorem mg_pick2 (l : Launch) (Z : State) (a0 : Array Value) (hw : HW a0 Z) (p1 : Int32) (a2 a3 : Addr) (ax : Addr) (h0 : Heap) (n0 : Nat) (OL0 : Old Z n0 h0) (hx : (if (((p1.toUInt32 >>> ((4 : Int32) &&& 31).toUInt32).toInt32) &&& (1 : Int32)) = (0 : Int32) then a2 else a3) = ax) :
    MF l Z mn13 method_2_code 4 (some (.object s29)) ⟨0, 0, 0, 0⟩ #[(.int p1), (.int (2 : Int32)), (.ref a2), (.ref a3)] h0 (QR n0 h0 (some (.ref ax))) := by
  subst hx
  by_cases hc : (((p1.toUInt32 >>> ((4 : Int32) &&& 31).toUInt32).toInt32) &&& (1 : Int32)) = (0 : Int32)
  · rw [if_pos hc]
    exact rm13_5 l Z a0 hw p1 a2 a3 h0 n0 OL0 hc
  · rw [if_neg hc]
    exact rm13_4 l Z a0 hw p1 a2 a3 h0 n0 OL0 hc
theorem d9_62 : DC cb9 62 (.invokevirtual 16) 3 := by decide +kernel
theorem d9_65 : DC cb9 65 (.pop) 1 := by decide +kernel
theorem rm9_3 (l : Launch) (Z : State) (a0 : Array Value) (hw : HW a0 Z) (p1 : Int32) (a2 a3 w5 a7 : Addr) (k9 : ClassId) (a13 a19 : Addr) (h0 : Heap) (n0 : Nat) (OL0 : Old Z n0 h0) (pr1 : (p1 &&& (3 : Int32)) = (3 : Int32)) (pr2 : Sta Z Z.heap s44 s2 s21 (.ref w5)) (pr3 : (if (((p1.toUInt32 >>> ((2 : Int32) &&& 31).toUInt32).toInt32) &&& (1 : Int32)) = (0 : Int32) then a2 else a3) = a7) (pr4 : Arv Z Z.heap w5 k9 (.object s37) (0 : Int32) [] .null) (pr5 : Exa Z h0 a7 s29) (pr6 : (if (((p1.toUInt32 >>> ((3 : Int32) &&& 31).toUInt32).toInt32) &&& (1 : Int32)) = (0 : Int32) then a2 else a3) = a13) (pr7 : Exa Z h0 a13 s29) (pr8 : (if (((p1.toUInt32 >>> ((4 : Int32) &&& 31).toUInt32).toInt32) &&& (1 : Int32)) = (0 : Int32) then a2 else a3) = a19) (pr9 : Exa Z h0 a19 s29) :
    MF l Z mn9 method_3_code 5 (some (.object s44)) ⟨5, 2, 13, 69⟩ #[(.int p1), (.ref a2), (.ref a3)] h0 (fun v h L => ∃ b4 : Addr, ∃ b10_0 : Addr, ∃ kx10_0 : ClassId, v = some (.ref b4) ∧ Fr n0 L ∧ Keep h0 h [] ∧ h0.size ≤ b4 ∧ h0.size ≤ b10_0 ∧ b4 ≠ b10_0 ∧ Exa Z h b4 s44 ∧ Fld Z h b4 s43 s57 "I" (.int (3 : Int32)) ∧ Fld Z h b4 s44 s32 s21 (.ref b10_0) ∧ Fld Z h b4 s44 "size" "I" (.int (3 : Int32)) ∧ Arv Z h b10_0 kx10_0 (.object s37) (10 : Int32) [(.ref a7), (.ref a13), (.ref a19), .null, .null, .null, .null, .null, .null, .null] .null ∧ Ovr Z kx10_0 s37 ∧ Exa Z h b10_0 s21) := by
  refine own_start (plainFor_of_name pn_7) (fun m => (ef_9_10 m p1 a2 a3)) ?_
  intro p e s m below meth c s₁ hZ hx hby hml hown hnm hret X0 e0
  have N0 := Fr.nil n0
  obtain ⟨T4, h4, X4, e4, E4, A4, D4, -, st4⟩ := newO X0 hx hZ hown (wd83 hw) (wd84 hw) (wd85 hw) e0 (g := (mkF m 4 #[iv p1, rv a2, rv a3, iv (3 : Int32), uu] [])) rfl (hb hby d9_4) (by decide) (by decide)
  obtain ⟨b4, g4⟩ : ∃ z, z = h0.size := ⟨_, rfl⟩
  rw [← g4] at A4 D4 st4
  have g_b4 : n0 ≤ b4 := (Nat.le_trans (Nat.le_trans (Nat.le_of_eq OL0.1.symm) OL0.2.1) (Nat.le_of_eq g4.symm))
  have sz_b4 : h0.size ≤ b4 := (Nat.le_trans (Keep.refl h0 []).1 (Nat.le_of_eq g4.symm))
  have KK4 : Keep h0 h4 [] := (Keep.refl h0 []).ext E4
  have OL4 := OL0.ext E4
  have F_modCount_b4 : Fld Z h4 b4 s43 s57 "I" (.int (0 : Int32)) := D4 (Or.inl (wd103 hw)) (ty := .int) (by decide)
  have F_elementData_b4 : Fld Z h4 b4 s44 s32 s21 .null := D4 (Or.inl (wd106 hw)) (ty := (.array (.object s37))) (by decide)
  have F_size_b4 : Fld Z h4 b4 s44 "size" "I" (.int (0 : Int32)) := D4 (Or.inl (wd118 hw)) (ty := .int) (by decide)
  obtain ⟨_, T6, L6, X6, hQ6, st6⟩ := own_cN X4 hx hZ hown hml (cw9 hw) (rm10_0 l Z a0 hw b4 w5 h4 n0 OL4 A4 F_modCount_b4 g_b4 F_elementData_b4 F_size_b4 pr2) e4 b4 8 #[iv p1, rv a2, rv a3, iv (3 : Int32), uu] [] [(.ref b4)] 1 rfl (hb hby d9_8) (by decide)
  obtain ⟨rfl, Nq6, K6, u6_0, u6_1, u6_2⟩ := hQ6
  have KK6 : Keep h0 T6.heap [] := KK4.trans K6 (allS (Or.inr sz_b4) all0)
  have OL6 := OL4.keep K6 (allS g_b4 all0)
  have N6 := Fr.app N0 Nq6
  obtain ⟨_, T8, L8, X8, hQ8, st8⟩ := own_cS X6 hx hZ hown hml (cw33 hw) (mg_pick0 l Z a0 hw p1 a2 a3 a7 T6.heap n0 OL6 pr3) rfl 23 #[iv p1, rv a2, rv a3, iv (3 : Int32), rv b4] [(.int p1), (.int (0 : Int32)), (.ref a2), (.ref a3)] [(.ref b4)] 1 rfl (hb hby d9_23) (by decide)
  obtain ⟨rfl, Nq8, ec8⟩ := hQ8
  have N8 := Fr.app N6 Nq8
  have fc11 := (A4.keep K6)
  have fc12 := ((pr5.ext E4).keep K6)
  obtain ⟨_, T10, L10, X10, hQ10, st10⟩ := own_cV X8 hx hZ hown hml (cw23 hw) (rm14_0 l Z a0 hw b4 a7 w5 k9 T6.heap n0 OL6 u6_0 fc11 g_b4 u6_1 u6_2 pr4 pr2 fc12) ec8 fc11 26 #[iv p1, rv a2, rv a3, iv (3 : Int32), rv b4] [(.ref a7)] [] 0 rfl (hb hby d9_26) (by decide)
  obtain ⟨b10_0, kx10_0, rfl, Nq10, K10, u10_0, u10_1, u10_2, u10_3, u10_4, u10_5, u10_6⟩ := hQ10
  have KK10 : Keep h0 T10.heap [] := KK6.trans K10 (allS (Or.inr sz_b4) all0)
  have OL10 := OL6.keep K10 (allS g_b4 all0)
  have g_b10_0 : n0 ≤ b10_0 := Nat.le_trans (Nat.le_trans (Nat.le_of_eq OL6.1.symm) OL6.2.1) u10_0
  have sz_b10_0 : h0.size ≤ b10_0 := Nat.le_trans KK6.1 u10_0
  have N10 := Fr.app N8 Nq10
  obtain ⟨_, T14, L14, X14, hQ14, st14⟩ := own_cS X10 hx hZ hown hml (cw33 hw) (mg_pick1 l Z a0 hw p1 a2 a3 a13 T10.heap n0 OL10 pr6) rfl 41 #[iv p1, rv a2, rv a3, iv (3 : Int32), rv b4] [(.int p1), (.int (1 : Int32)), (.ref a2), (.ref a3)] [(.ref b4)] 1 rfl (hb hby d9_41) (by decide)
  obtain ⟨rfl, Nq14, ec14⟩ := hQ14
  have N14 := Fr.app N10 Nq14
  have fc16 := (fc11.keep K10)
  have nz17 := nl u6_2.lt u10_0
  have fc18 := (((pr7.ext E4).keep K6).keep K10)
  obtain ⟨_, T15, L15, X15, hQ15, st15⟩ := own_cV X14 hx hZ hown hml (cw23 hw) (rm14_1 l Z a0 hw b4 a13 b10_0 a7 kx10_0 T10.heap n0 OL10 u10_1 fc16 g_b4 u10_2 u10_3 u10_4 (Ne.symm nz17) g_b10_0 u10_5 fc18 nz17) ec14 fc16 44 #[iv p1, rv a2, rv a3, iv (3 : Int32), rv b4] [(.ref a13)] [] 0 rfl (hb hby d9_44) (by decide)
  obtain ⟨rfl, Nq15, K15, u15_0, u15_1, u15_2, u15_3⟩ := hQ15
  have KK15 : Keep h0 T15.heap [] := KK10.trans K15 (allS (Or.inr sz_b4) (allS (Or.inr sz_b10_0) all0))
  have OL15 := OL10.keep K15 (allS g_b4 (allS g_b10_0 all0))
  have N15 := Fr.app N14 Nq15
  obtain ⟨_, T20, L20, X20, hQ20, st20⟩ := own_cS X15 hx hZ hown hml (cw33 hw) (mg_pick2 l Z a0 hw p1 a2 a3 a19 T15.heap n0 OL15 pr8) rfl 59 #[iv p1, rv a2, rv a3, iv (3 : Int32), rv b4] [(.int p1), (.int (2 : Int32)), (.ref a2), (.ref a3)] [(.ref b4)] 1 rfl (hb hby d9_59) (by decide)
  obtain ⟨rfl, Nq20, ec20⟩ := hQ20
  have N20 := Fr.app N15 Nq20
  have fc22 := (fc16.keep K15)
  have fc23 := ((((pr9.ext E4).keep K6).keep K10).keep K15)
  obtain ⟨_, T21, L21, X21, hQ21, st21⟩ := own_cV X20 hx hZ hown hml (cw23 hw) (rm14_2 l Z a0 hw b4 a19 b10_0 a7 a13 kx10_0 T15.heap n0 OL15 u15_0 fc22 g_b4 u15_1 u15_2 u15_3 (Ne.symm nz17) g_b10_0 u10_5 fc23 nz17) ec20 fc22 62 #[iv p1, rv a2, rv a3, iv (3 : Int32), rv b4] [(.ref a19)] [] 0 rfl (hb hby d9_62) (by decide)
  obtain ⟨rfl, Nq21, K21, u21_0, u21_1, u21_2, u21_3⟩ := hQ21
  have KK21 : Keep h0 T21.heap [] := KK15.trans K21 (allS (Or.inr sz_b4) (allS (Or.inr sz_b10_0) all0))
  have N21 := Fr.app N20 Nq21
  have fc24 := (fc22.keep K21)
  have fc25 := ((u10_6.keep K15).keep K21)
  refine ⟨some (.ref b4), _, _, _, _, _, X21, rfl, by decide, nofun, fun fs hr => ?_, ?_⟩
  · refine XS.iloadN X0.here hx rfl (hb hby d9_0) rfl ?_
    show SS p e below s₁ m 1 #[iv p1, rv a2, rv a3, uu, uu] [(.int p1)] _
    refine XS.iconst X0.here hx rfl (hb hby d9_1) ?_
    refine XS.iand X0.here hx rfl (hb hby d9_2) rfl ?_
    show SS p e below s₁ m 3 #[iv p1, rv a2, rv a3, uu, uu] [(.int (p1 &&& (3 : Int32)))] _
    rw [pr1]
    refine XS.istoreN X0.here hx rfl (hb hby d9_3) rfl (l' := #[iv p1, rv a2, rv a3, iv (3 : Int32), uu]) rfl ?_
    refine st4 _ ?_
    refine XS.dup X4.here hx rfl (hb hby d9_7) rfl rfl ?_
    refine st6 _ ?_
    refine XS.astore X6.here hx rfl (hb hby d9_11) rfl rfl (l' := #[iv p1, rv a2, rv a3, iv (3 : Int32), rv b4]) rfl ?_
    refine XS.iloadN X6.here hx rfl (hb hby d9_13) rfl ?_
    refine XS.ifNo X6.here hx rfl (hb hby d9_14) rfl ((if0 _ _).trans (tlt (by decide : (0 : Int32) < (3 : Int32))).2.2.2) ?_
    refine XS.aload X6.here hx rfl (hb hby d9_17) rfl rfl ?_
    show SS p e below T6 m 19 #[iv p1, rv a2, rv a3, iv (3 : Int32), rv b4] [(.ref b4)] _
    refine XS.iloadN X6.here hx rfl (hb hby d9_19) rfl ?_
    refine XS.iconst X6.here hx rfl (hb hby d9_20) ?_
    refine XS.aloadN X6.here hx rfl (hb hby d9_21) rfl rfl ?_
    refine XS.aloadN X6.here hx rfl (hb hby d9_22) rfl rfl ?_
    refine st8 _ ?_
    refine st10 _ ?_
    refine XS.pop X10.here hx rfl (hb hby d9_29) rfl rfl ?_
    refine XS.iloadN X10.here hx rfl (hb hby d9_30) rfl ?_
    refine XS.iconst X10.here hx rfl (hb hby d9_31) ?_
    refine XS.icmpNo X10.here hx rfl (hb hby d9_32) rfl (tlt (by decide : (1 : Int32) < (3 : Int32))).2.2.2 ?_
    show SS p e below T10 m 35 #[iv p1, rv a2, rv a3, iv (3 : Int32), rv b4] [] _
    refine XS.aload X10.here hx rfl (hb hby d9_35) rfl rfl ?_
    refine XS.iloadN X10.here hx rfl (hb hby d9_37) rfl ?_
    refine XS.iconst X10.here hx rfl (hb hby d9_38) ?_
    refine XS.aloadN X10.here hx rfl (hb hby d9_39) rfl rfl ?_
    refine XS.aloadN X10.here hx rfl (hb hby d9_40) rfl rfl ?_
    refine st14 _ ?_
    refine st15 _ ?_
    refine XS.pop X15.here hx rfl (hb hby d9_47) rfl rfl ?_
    refine XS.iloadN X15.here hx rfl (hb hby d9_48) rfl ?_
    refine XS.iconst X15.here hx rfl (hb hby d9_49) ?_
    show SS p e below T15 m 50 #[iv p1, rv a2, rv a3, iv (3 : Int32), rv b4] [(.int (2 : Int32)), (.int (3 : Int32))] _
    refine XS.icmpNo X15.here hx rfl (hb hby d9_50) rfl (tlt (by decide : (2 : Int32) < (3 : Int32))).2.2.2 ?_
    refine XS.aload X15.here hx rfl (hb hby d9_53) rfl rfl ?_
    refine XS.iloadN X15.here hx rfl (hb hby d9_55) rfl ?_
    refine XS.iconst X15.here hx rfl (hb hby d9_56) ?_
    refine XS.aloadN X15.here hx rfl (hb hby d9_57) rfl rfl ?_
    refine XS.aloadN X15.here hx rfl (hb hby d9_58) rfl rfl ?_
    refine st20 _ ?_
    refine st21 _ ?_
    refine XS.pop X21.here hx rfl (hb hby d9_65) rfl rfl ?_
    refine XS.aload X21.here hx rfl (hb hby d9_66) rfl rfl ?_
    show SS p e below T21 m 68 #[iv p1, rv a2, rv a3, iv (3 : Int32), rv b4] [(.ref b4)] _
    exact own_retR X21 hx hret rfl rfl rfl (hb hby d9_68) hr
  · exact ⟨b4, b10_0, kx10_0, rfl, N21, KK21, sz_b4, sz_b10_0, nz17, fc24, u21_0, u21_1, u21_2, u21_3, u10_5, fc25⟩
theorem rm22_3 (l : Launch) (Z : State) (a0 : Array Value) (hw : HW a0 Z) (a1 : Addr) (h0 : Heap) (n0 : Nat) (OL0 : Old Z n0 h0) (pr1 : Fld Z h0 a1 s44 "size" "I" (.int (3 : Int32))) :
    MF l Z mn22 jdk_38_method_9_code 1 (some .boolean) ⟨0, 0, 0, 0⟩ #[(.ref a1)] h0 (QR n0 h0 (some (.int (0 : Int32)))) := by
  refine own_start (plainFor_of_name pn_6) (fun m => (ef_22_11 m a1)) ?_
  intro p e s m below meth c s₁ hZ hx hby hml hown hnm hret X0 e0
  have N0 := Fr.nil n0
  obtain ⟨T2, X2, e2, st2⟩ := gF X0 hx hZ hown (wd117 hw) Via.refl e0 pr1 1 #[rv a1] [] (hb hby d22_1)
  refine ⟨some (.int (0 : Int32)), _, _, _, _, _, X2, e2, by decide, nofun, fun fs hr => ?_, ?_⟩
  · refine XS.aloadN X0.here hx rfl (hb hby d22_0) rfl rfl ?_
    show SS p e below s₁ m 1 #[rv a1] [(.ref a1)] _
    refine st2 _ ?_
    refine XS.ifYes X2.here hx rfl (pc0 := 4) (pc' := 11) rfl (hb hby d22_4) rfl ((if0 _ _).trans (feq (by decide : ¬ ((3 : Int32) = (0 : Int32)))).2) (by decide) (by decide) ?_
    refine XS.iconst X2.here hx rfl (hb hby d22_11) ?_
    show SS p e below T2 m 12 #[rv a1] [(.int (0 : Int32))] _
    exact retN X2 hx (t := .boolean) hret (by simp) (hb hby d22_12) hr
  · exact ⟨rfl, N0, rfl⟩
theorem ef_26_52 (m : MethodId)  : entryFrame m #[(.int (10 : Int32)), (.int (3 : Int32))] 2 = mkF m 0 #[.val (.int (10 : Int32)), .val (.int (3 : Int32))] [] := by first | (simp [entryFrame, mkF, argsToLocals, Value.category]; done) | rfl
theorem rm26_2 (l : Launch) (Z : State) (a0 : Array Value) (hw : HW a0 Z)  (h0 : Heap) (n0 : Nat) (OL0 : Old Z n0 h0)  :
    MF l Z mn26 jdk_29_method_69_code 2 (some .int) ⟨0, 0, 0, 0⟩ #[(.int (10 : Int32)), (.int (3 : Int32))] h0 (QR n0 h0 (some (.int (3 : Int32)))) := by
  refine own_start (Jvm.Free.JP.mathPlain rfl (by decide +kernel)) (fun m => (ef_26_52 m )) ?_
  intro p e s m below meth c s₁ hZ hx hby hml hown hnm hret X0 e0
  have N0 := Fr.nil n0
  refine ⟨some (.int (3 : Int32)), _, _, _, _, _, X0, e0, by decide, nofun, fun fs hr => ?_, ?_⟩
  · refine XS.iloadN X0.here hx rfl (hb hby d26_0) rfl ?_
    show SS p e below s₁ m 1 #[iv (10 : Int32), iv (3 : Int32)] [(.int (10 : Int32))] _
    refine XS.iloadN X0.here hx rfl (hb hby d26_1) rfl ?_
    refine XS.icmpYes X0.here hx rfl (pc0 := 2) (pc' := 9) rfl (hb hby d26_2) rfl (tlt (by decide : (3 : Int32) < (10 : Int32))).2.2.1 (by decide) (by decide) ?_
    refine XS.iloadN X0.here hx rfl (hb hby d26_9) rfl ?_
    show SS p e below s₁ m 10 #[iv (10 : Int32), iv (3 : Int32)] [(.int (3 : Int32))] _
    exact retI X0 hx hret (hb hby d26_10) hr
  · exact ⟨rfl, N0, rfl⟩
theorem ef_25_53 (m : MethodId) (x0 : Addr) (x2 : Addr) : entryFrame m #[(.ref x0), (.int (3 : Int32)), (.ref x2)] 4 = mkF m 0 #[.val (.ref x0), .val (.int (3 : Int32)), .val (.ref x2), .unset] [] := by first | (simp [entryFrame, mkF, argsToLocals, Value.category]; done) | rfl
theorem rm25_2 (l : Launch) (Z : State) (a0 : Array Value) (hw : HW a0 Z) (a1 w2 a5 a6 a7 : Addr) (k8 : ClassId) (h0 : Heap) (n0 : Nat) (OL0 : Old Z n0 h0) (pr1 : MirM Z s21 w2) (pr2 : Arv Z h0 a1 k8 (.object s37) (10 : Int32) [(.ref a5), (.ref a6), (.ref a7), .null, .null, .null, .null, .null, .null, .null] .null) (pr3 : Exa Z h0 a7 s29) (pr4 : Exa Z h0 a6 s29) (pr5 : Exa Z h0 a5 s29) :
    MF l Z mn25 jdk_65_method_120_code 4 (some (.array (.object s37))) ⟨1, 1, 3, 18⟩ #[(.ref a1), (.int (3 : Int32)), (.ref w2)] h0 (fun v h L => ∃ b4 : Addr, ∃ k4 : ClassId, v = some (.ref b4) ∧ Fr n0 L ∧ Keep h0 h [] ∧ h0.size ≤ b4 ∧ Arv Z h b4 k4 (.object s37) (3 : Int32) [(.ref a5), (.ref a6), (.ref a7)] .null ∧ Ovr Z k4 s37 ∧ Exa Z h b4 s21) := by
  refine own_start (plainFor_of_name pn_12) (fun m => (ef_25_53 m a1 w2)) ?_
  intro p e s m below meth c s₁ hZ hx hby hml hown hnm hret X0 e0
  have N0 := Fr.nil n0
  obtain ⟨T3, X3, e3, st3⟩ := own_ldcM X0 hx hZ hown (wd192 hw) e0 pr1 (g := (mkF m 1 #[rv a1, iv (3 : Int32), rv w2, uu] [(.ref w2)])) rfl (hb hby d25_1)
  obtain ⟨T4, h4, k4, X4, e4, E4, A4, AE4, O4, st4⟩ := newRE (ad := s21) X3 hx hZ hown (wd193 hw) (wd139 hw) e3 (g := (mkF m 7 #[rv a1, iv (3 : Int32), rv w2, uu] [(.int (3 : Int32))])) rfl (hb hby d25_7) rfl (by decide) (cap := 3) (by decide) (by decide) (by decide) (by decide) (by decide)
  obtain ⟨b4, g4⟩ : ∃ z, z = h0.size := ⟨_, rfl⟩
  rw [← g4] at A4 AE4 st4
  have V4 : Arv Z h4 b4 k4 (.object s37) (3 : Int32) [.null, .null, .null] .null := (Arv.new A4 (by decide)).pad (pad_rep [] .null 3)
  have g_b4 : n0 ≤ b4 := (Nat.le_trans (Nat.le_trans (Nat.le_of_eq OL0.1.symm) OL0.2.1) (Nat.le_of_eq g4.symm))
  have sz_b4 : h0.size ≤ b4 := (Nat.le_trans (Keep.refl h0 []).1 (Nat.le_of_eq g4.symm))
  have KK4 : Keep h0 h4 [] := (Keep.refl h0 []).ext E4
  have OL4 := OL0.ext E4
  have fc9 := (pr2.ext E4)
  obtain ⟨cl10, Ar10, -, Sz10, Nn10, -, -⟩ := id fc9
  obtain ⟨_, T11, L11, X11, hQ11, st11⟩ := own_cS X4 hx hZ hown hml (cw34 hw) (rm26_2 l Z a0 hw  h4 n0 OL4 ) e4 32 #[rv a1, iv (3 : Int32), rv w2, rv b4] [(.int (10 : Int32)), (.int (3 : Int32))] [(.int (0 : Int32)), (.ref b4), (.int (0 : Int32)), (.ref a1)] 4 rfl (hb hby d25_32) (by decide)
  obtain ⟨rfl, Nq11, ec11⟩ := hQ11
  have N11 := Fr.app N0 Nq11
  obtain ⟨cl12, Ar12, q12, -, -, -, -⟩ := id V4
  have fc13 := (pr3.ext E4)
  have fc14 := (pr4.ext E4)
  have fc15 := (pr5.ext E4)
  obtain ⟨T16, h16, L16, X16, e16, N16, K16, VV16, st16⟩ := cpA X11 hx hZ hown (wd197 hw) (wd200 hw) (wd198 hw) (wd199 hw) ec11 (us := [(.ref a5), (.ref a6), (.ref a7)]) fc9 V4 (Or.inr ⟨rfl, rfl, ⟨(Sto.ofV Ar12 q12 O4 (Ins.of_exa fc15 (wd140 hw))), ⟨(Sto.ofV Ar12 q12 O4 (Ins.of_exa fc14 (wd140 hw))), ⟨(Sto.ofV Ar12 q12 O4 (Ins.of_exa fc13 (wd140 hw))), trivial⟩⟩⟩⟩) (by decide) (by decide) (by decide) (by decide) (by decide) rfl (by decide) N11 g_b4 (g := (mkF m 35 #[rv a1, iv (3 : Int32), rv w2, rv b4] [(.int (3 : Int32)), (.int (0 : Int32)), (.ref b4), (.int (0 : Int32)), (.ref a1)])) rfl (by rw [hml]; rfl) rfl (hb hby d25_35) (by decide) (W := 0) (by show 2 * 0 + _ ≤ _; exact Nat.le_of_eq rfl) (by decide)
  have V16 : Arv Z h16 b4 k4 (.object s37) (3 : Int32) [(.ref a5), (.ref a6), (.ref a7)] .null := VV16
  have KK16 : Keep h0 h16 [] := KK4.trans K16 (allS (Or.inr sz_b4) all0)
  have fc17 := (AE4.keep K16)
  refine ⟨some (.ref b4), _, _, _, _, _, X16, e16, by decide, nofun, fun fs hr => ?_, ?_⟩
  · refine XS.aloadN X0.here hx rfl (hb hby d25_0) rfl rfl ?_
    show SS p e below s₁ m 1 #[rv a1, iv (3 : Int32), rv w2, uu] [(.ref w2)] _
    refine st3 _ ?_
    refine Jvm.RoadKit.acmp (g := (mkF m 3 #[rv a1, iv (3 : Int32), rv w2, uu] [(.ref w2), (.ref w2)])) X3 hx rfl rfl rfl (pc0 := 3) (pc' := 6) (same := true) rfl (hb hby d25_3) rfl (decide_eq_true rfl) (by decide) (by decide) ?_
    refine XS.iloadN X3.here hx rfl (hb hby d25_6) rfl ?_
    refine st4 _ ?_
    refine XS.goto X4.here hx rfl (pc0 := 10) (pc' := 24) rfl (hb hby d25_10) (by decide) (by decide) ?_
    refine XS.astoreN X4.here hx rfl (hb hby d25_24) rfl rfl (l' := #[rv a1, iv (3 : Int32), rv w2, rv b4]) rfl ?_
    refine XS.aloadN X4.here hx rfl (hb hby d25_25) rfl rfl ?_
    refine XS.iconst X4.here hx rfl (hb hby d25_26) ?_
    refine XS.aloadN X4.here hx rfl (hb hby d25_27) rfl rfl ?_
    refine XS.iconst X4.here hx rfl (hb hby d25_28) ?_
    show SS p e below T4 m 29 #[rv a1, iv (3 : Int32), rv w2, rv b4] [(.int (0 : Int32)), (.ref b4), (.int (0 : Int32)), (.ref a1)] _
    refine XS.aloadN X4.here hx rfl (hb hby d25_29) rfl rfl ?_
    refine X4.arraylength hx (by rw [e4]; exact Ar10.1) (State.isArrayOf_alike hZ.alike Ar10.2.1) (g := (mkF m 30 #[rv a1, iv (3 : Int32), rv w2, rv b4] [(.ref a1), (.int (0 : Int32)), (.ref b4), (.int (0 : Int32)), (.ref a1)])) rfl rfl (hb hby d25_30) _ ?_
    rw [len_of Sz10 Nn10]
    refine XS.iloadN X4.here hx rfl (hb hby d25_31) rfl ?_
    refine st11 _ ?_
    refine st16 _ ?_
    refine XS.aloadN X16.here hx rfl (hb hby d25_38) rfl rfl ?_
    show SS p e below T16 m 39 #[rv a1, iv (3 : Int32), rv w2, rv b4] [(.ref b4)] _
    exact own_retR X16 hx hret rfl rfl rfl (hb hby d25_39) hr
  · exact ⟨b4, k4, rfl, N16, KK16, sz_b4, V16, O4, fc17⟩
theorem ef_24_54 (m : MethodId) (x0 : Addr) : entryFrame m #[(.ref x0), (.int (3 : Int32))] 2 = mkF m 0 #[.val (.ref x0), .val (.int (3 : Int32))] [] := by first | (simp [entryFrame, mkF, argsToLocals, Value.category]; done) | rfl
theorem rm24_2 (l : Launch) (Z : State) (a0 : Array Value) (hw : HW a0 Z) (a1 w2 a4 a5 a6 : Addr) (k7 : ClassId) (h0 : Heap) (n0 : Nat) (OL0 : Old Z n0 h0) (pr1 : MirM Z s21 w2) (pr2 : Exa Z h0 a1 s21) (pr3 : Arv Z h0 a1 k7 (.object s37) (10 : Int32) [(.ref a4), (.ref a5), (.ref a6), .null, .null, .null, .null, .null, .null, .null] .null) (pr4 : Exa Z h0 a6 s29) (pr5 : Exa Z h0 a5 s29) (pr6 : Exa Z h0 a4 s29) :
    MF l Z mn24 jdk_65_method_119_code 2 (some (.array (.object s37))) ⟨2, 1, 3, 33⟩ #[(.ref a1), (.int (3 : Int32))] h0 (fun v h L => ∃ b8_0 : Addr, ∃ kx8_0 : ClassId, v = some (.ref b8_0) ∧ Fr n0 L ∧ Keep h0 h [] ∧ h0.size ≤ b8_0 ∧ Arv Z h b8_0 kx8_0 (.object s37) (3 : Int32) [(.ref a4), (.ref a5), (.ref a6)] .null ∧ Ovr Z kx8_0 s37 ∧ Exa Z h b8_0 s21) := by
  refine own_start (plainFor_of_name pn_12) (fun m => (ef_24_54 m a1)) ?_
  intro p e s m below meth c s₁ hZ hx hby hml hown hnm hret X0 e0
  have N0 := Fr.nil n0
  obtain ⟨T3, X3, e3, st3⟩ := own_gcls X0 hx hZ hown (wd183 hw) (wd184 hw) (wd160 hw) (wd186 hw) (wd185 hw) (wd187 hw) e0 pr2 pr1 (g := (mkF m 3 #[rv a1, iv (3 : Int32)] [(.ref a1), (.int (3 : Int32)), (.ref a1)])) rfl (by rw [hml]; rfl) rfl (hb hby d24_3) (by decide) (W := 2) (by show 2 * 0 + _ ≤ _; exact Nat.le_of_eq rfl) (by decide)
  obtain ⟨_, T8, L8, X8, hQ8, st8⟩ := own_cS X3 hx hZ hown hml (cw35 hw) (rm25_2 l Z a0 hw a1 w2 a4 a5 a6 k7 h0 n0 OL0 pr1 pr3 pr4 pr5 pr6) e3 6 #[rv a1, iv (3 : Int32)] [(.ref a1), (.int (3 : Int32)), (.ref w2)] [] 0 rfl (hb hby d24_6) (by decide)
  obtain ⟨b8_0, kx8_0, rfl, Nq8, K8, u8_0, u8_1, u8_2, u8_3⟩ := hQ8
  have KK8 : Keep h0 T8.heap [] := (Keep.refl h0 []).trans K8 all0
  have sz_b8_0 : h0.size ≤ b8_0 := Nat.le_trans (Keep.refl h0 []).1 u8_0
  have N8 := Fr.app N0 Nq8
  refine ⟨some (.ref b8_0), _, _, _, _, _, X8, rfl, by decide, nofun, fun fs hr => ?_, ?_⟩
  · refine XS.aloadN X0.here hx rfl (hb hby d24_0) rfl rfl ?_
    show SS p e below s₁ m 1 #[rv a1, iv (3 : Int32)] [(.ref a1)] _
    refine XS.iloadN X0.here hx rfl (hb hby d24_1) rfl ?_
    refine XS.aloadN X0.here hx rfl (hb hby d24_2) rfl rfl ?_
    refine st3 _ ?_
    refine st8 _ ?_
    show SS p e below T8 m 9 #[rv a1, iv (3 : Int32)] [(.ref b8_0)] _
    exact own_retR X8 hx hret rfl rfl rfl (hb hby d24_9) hr
  · exact ⟨b8_0, kx8_0, rfl, N8, KK8, sz_b8_0, u8_1, u8_2, u8_3⟩
theorem rm23_2 (l : Launch) (Z : State) (a0 : Array Value) (hw : HW a0 Z) (a1 a2 w5 a6 a7 a8 : Addr) (k9 : ClassId) (h0 : Heap) (n0 : Nat) (OL0 : Old Z n0 h0) (pr1 : Fld Z h0 a1 s44 s32 s21 (.ref a2)) (pr2 : Fld Z h0 a1 s44 "size" "I" (.int (3 : Int32))) (pr3 : MirM Z s21 w5) (pr4 : Exa Z h0 a2 s21) (pr5 : Arv Z h0 a2 k9 (.object s37) (10 : Int32) [(.ref a6), (.ref a7), (.ref a8), .null, .null, .null, .null, .null, .null, .null] .null) (pr6 : Exa Z h0 a8 s29) (pr7 : Exa Z h0 a7 s29) (pr8 : Exa Z h0 a6 s29) :
    MF l Z mn23 jdk_38_method_16_code 1 (some (.array (.object s37))) ⟨3, 1, 3, 46⟩ #[(.ref a1)] h0 (fun v h L => ∃ b10_0 : Addr, ∃ kx10_0 : ClassId, v = some (.ref b10_0) ∧ Fr n0 L ∧ Keep h0 h [] ∧ h0.size ≤ b10_0 ∧ Arv Z h b10_0 kx10_0 (.object s37) (3 : Int32) [(.ref a6), (.ref a7), (.ref a8)] .null ∧ Ovr Z kx10_0 s37 ∧ Exa Z h b10_0 s21) := by
  refine own_start (plainFor_of_name pn_6) (fun m => (ef_23_35 m a1)) ?_
  intro p e s m below meth c s₁ hZ hx hby hml hown hnm hret X0 e0
  have N0 := Fr.nil n0
  obtain ⟨T3, X3, e3, st3⟩ := gF X0 hx hZ hown (wd105 hw) Via.refl e0 pr1 1 #[rv a1] [] (hb hby d23_1)
  obtain ⟨T4, X4, e4, st4⟩ := gF X3 hx hZ hown (wd117 hw) Via.refl e3 pr2 5 #[rv a1] [(.ref a2)] (hb hby d23_5)
  obtain ⟨_, T10, L10, X10, hQ10, st10⟩ := own_cS X4 hx hZ hown hml (cw36 hw) (rm24_2 l Z a0 hw a2 w5 a6 a7 a8 k9 h0 n0 OL0 pr3 pr4 pr5 pr6 pr7 pr8) e4 8 #[rv a1] [(.ref a2), (.int (3 : Int32))] [] 0 rfl (hb hby d23_8) (by decide)
  obtain ⟨b10_0, kx10_0, rfl, Nq10, K10, u10_0, u10_1, u10_2, u10_3⟩ := hQ10
  have KK10 : Keep h0 T10.heap [] := (Keep.refl h0 []).trans K10 all0
  have sz_b10_0 : h0.size ≤ b10_0 := Nat.le_trans (Keep.refl h0 []).1 u10_0
  have N10 := Fr.app N0 Nq10
  refine ⟨some (.ref b10_0), _, _, _, _, _, X10, rfl, by decide, nofun, fun fs hr => ?_, ?_⟩
  · refine XS.aloadN X0.here hx rfl (hb hby d23_0) rfl rfl ?_
    show SS p e below s₁ m 1 #[rv a1] [(.ref a1)] _
    refine st3 _ ?_
    refine XS.aloadN X3.here hx rfl (hb hby d23_4) rfl rfl ?_
    refine st4 _ ?_
    refine st10 _ ?_
    show SS p e below T10 m 11 #[rv a1] [(.ref b10_0)] _
    exact own_retR X10 hx hret rfl rfl rfl (hb hby d23_11) hr
  · exact ⟨b10_0, kx10_0, rfl, N10, KK10, sz_b10_0, u10_1, u10_2, u10_3⟩
theorem d27_59 : DC cb27 59 (.aload_n 0) 1 := by decide +kernel
theorem d27_60 : DC cb27 60 (.invokestatic 109) 3 := by decide +kernel
theorem d45_0 : DC cb45 0 (.aload_n 0) 1 := by decide +kernel
theorem d45_1 : DC cb45 1 (.arraylength) 1 := by decide +kernel
theorem d45_2 : DC cb45 2 (.anewarray 2) 3 := by decide +kernel
theorem d45_5 : DC cb45 5 (.astore_n 1) 1 := by decide +kernel
theorem d45_6 : DC cb45 6 (.iconst 0) 1 := by decide +kernel
theorem d45_7 : DC cb45 7 (.istore_n 2) 1 := by decide +kernel
theorem d45_8 : DC cb45 8 (.iload_n 2) 1 := by decide +kernel
theorem d45_9 : DC cb45 9 (.aload_n 0) 1 := by decide +kernel
theorem d45_10 : DC cb45 10 (.arraylength) 1 := by decide +kernel
theorem d45_11 : DC cb45 11 (.if_icmp .ge 18) 3 := by decide +kernel
theorem d45_14 : DC cb45 14 (.aload_n 1) 1 := by decide +kernel
theorem d45_15 : DC cb45 15 (.iload_n 2) 1 := by decide +kernel
theorem d45_16 : DC cb45 16 (.aload_n 0) 1 := by decide +kernel
theorem d45_17 : DC cb45 17 (.iload_n 2) 1 := by decide +kernel
theorem d45_18 : DC cb45 18 (.aaload) 1 := by decide +kernel
theorem d45_19 : DC cb45 19 (.invokestatic 37) 3 := by decide +kernel
theorem cw47 {a0 Z} (hw : HW a0 Z) : CS a0 Z s47 37 mn31 1 (.code mn31 jdk_31_method_10_code 1 (some (.object s37))) :=
  ⟨wx hw 325 rfl, wx hw 226 rfl, wx hw 228 rfl, wx hw 227 rfl, by decide, _, _, pd_26, rfl⟩
theorem d45_22 : DC cb45 22 (.aastore) 1 := by decide +kernel
theorem d45_23 : DC cb45 23 (.iinc 2 1) 3 := by decide +kernel
theorem d45_26 : DC cb45 26 (.goto (-18)) 3 := by decide +kernel
theorem d45_29 : DC cb45 29 (.new 12) 3 := by decide +kernel
theorem d45_32 : DC cb45 32 (.dup) 1 := by decide +kernel
theorem d45_33 : DC cb45 33 (.aload_n 1) 1 := by decide +kernel
theorem d45_34 : DC cb45 34 (.iconst 0) 1 := by decide +kernel
theorem d45_35 : DC cb45 35 (.invokespecial 43) 3 := by decide +kernel
theorem d46_0 : DC cb46 0 (.aload_n 0) 1 := by decide +kernel
theorem d46_1 : DC cb46 1 (.invokespecial 1) 3 := by decide +kernel
theorem cw48 {a0 Z} (hw : HW a0 Z) : CN a0 Z s51 1 mn29 0 (.code mn29 jdk_46_method_1_code 1 none) :=
  ⟨rfl, wx hw 331 rfl, wx hw 212 rfl, wx hw 216 rfl, wx hw 215 rfl, by decide, _, _, pd_0, rfl⟩
theorem d46_4 : DC cb46 4 (.aload_n 0) 1 := by decide +kernel
theorem d46_5 : DC cb46 5 (.aload_n 1) 1 := by decide +kernel
theorem d46_6 : DC cb46 6 (.putfield 7) 3 := by decide +kernel
theorem d46_9 : DC cb46 9 (.aload_n 0) 1 := by decide +kernel
theorem d46_10 : DC cb46 10 (.iload_n 2) 1 := by decide +kernel
theorem d46_11 : DC cb46 11 (.putfield 13) 3 := by decide +kernel
theorem d46_14 : DC cb46 14 (.return_) 1 := by decide +kernel
theorem ef_46_55 (m : MethodId) (x0 : Addr) (x1 : Addr) : entryFrame m #[(.ref x0), (.ref x1), (.int (0 : Int32))] 3 = mkF m 0 #[.val (.ref x0), .val (.ref x1), .val (.int (0 : Int32))] [] := by first | (simp [entryFrame, mkF, argsToLocals, Value.category]; done) | rfl
theorem rm46_0 (l : Launch) (Z : State) (a0 : Array Value) (hw : HW a0 Z) (a1 a2 : Addr) (h0 : Heap) (n0 : Nat) (OL0 : Old Z n0 h0) (pr1 : Exa Z h0 a1 s51) (pr2 : Fld Z h0 a1 s51 s33 s21 .null) (pr3 : n0 ≤ a1) (pr4 : Fld Z h0 a1 s51 s22 "Z" (.int (0 : Int32))) :
    MF l Z mn46 jdk_45_method_1_code 3 none ⟨4, 0, 0, 48⟩ #[(.ref a1), (.ref a2), (.int (0 : Int32))] h0 (fun v h L => v = none ∧ Fr n0 L ∧ Keep h0 h [a1] ∧ Fld Z h a1 s51 s33 s21 (.ref a2) ∧ Fld Z h a1 s51 s22 "Z" (.int (0 : Int32))) := by
  refine own_start (plainFor_of_name pn_11) (fun m => (ef_46_55 m a1 a2)) ?_
  intro p e s m below meth c s₁ hZ hx hby hml hown hnm hret X0 e0
  have N0 := Fr.nil n0
  obtain ⟨_, T3, L3, X3, hQ3, st3⟩ := own_cN X0 hx hZ hown hml (cw48 hw) (rm29_0 l Z a0 hw a1 h0 n0 OL0 ) e0 a1 1 #[rv a1, rv a2, iv (0 : Int32)] [] [] 0 rfl (hb hby d46_1) (by decide)
  obtain ⟨rfl, Nq3, ec3⟩ := hQ3
  have N3 := Fr.app N0 Nq3
  obtain ⟨T4, h4, X4, e4, W4, st4⟩ := putF X3 hx hZ hown (host := "") (Or.inl (wd305 hw)) Via.refl ec3 pr2 pr1 (Or.inr ⟨(wd306 hw), rfl, hnm⟩) (wd326 hw) (ty := (.array (.object s37))) (by decide) rfl rfl (g := (mkF m 6 #[rv a1, rv a2, iv (0 : Int32)] [(.ref a2), (.ref a1)])) rfl rfl (hb hby d46_6)
  have Fw4 := pr2.same W4
  have KK4 : Keep h0 h4 [a1] := (Keep.refl h0 [a1]).wr W4 (Or.inl (List.mem_of_getElem? (i := 0) rfl))
  have N4 := Fr.snoc X4 N3 pr3
  have fc5 := (pr1.wr W4)
  have fc6 := (pr4.other W4 (Or.inr (slot_ne (Or.inr (wd336 hw)) (Or.inr (wd306 hw)) (by decide) (t := .boolean) (t' := (.array (.object s37))) (by decide) (by decide))))
  obtain ⟨T7, h7, X7, e7, W7, st7⟩ := putFN X4 hx hZ hown (wd335 hw) Via.refl e4 fc6 fc5 (Or.inr ⟨(wd336 hw), rfl, hnm⟩) (wd326 hw) (ty := .boolean) (v' := (.int (0 : Int32))) (by decide) rfl rfl (g := (mkF m 11 #[rv a1, rv a2, iv (0 : Int32)] [(.int (0 : Int32)), (.ref a1)])) rfl rfl (hb hby d46_11)
  have Fw7 := fc6.same W7
  have KK7 : Keep h0 h7 [a1] := KK4.wr W7 (Or.inl (List.mem_of_getElem? (i := 0) rfl))
  have N7 := Fr.snoc X7 N4 pr3
  have fc8 := (Fw4.other W7 (Or.inr (slot_ne (Or.inr (wd306 hw)) (Or.inr (wd336 hw)) (by decide) (t := (.array (.object s37))) (t' := .boolean) (by decide) (by decide))))
  refine ⟨none, _, _, _, _, _, X7, e7, by decide, fun _ => rfl, fun fs hr => ?_, ?_⟩
  · refine XS.aloadN X0.here hx rfl (hb hby d46_0) rfl rfl ?_
    show SS p e below s₁ m 1 #[rv a1, rv a2, iv (0 : Int32)] [(.ref a1)] _
    refine st3 _ ?_
    refine XS.aloadN X3.here hx rfl (hb hby d46_4) rfl rfl ?_
    refine XS.aloadN X3.here hx rfl (hb hby d46_5) rfl rfl ?_
    refine st4 _ ?_
    refine XS.aloadN X4.here hx rfl (hb hby d46_9) rfl rfl ?_
    refine XS.iloadN X4.here hx rfl (hb hby d46_10) rfl ?_
    refine st7 _ ?_
    show SS p e below T7 m 14 #[rv a1, rv a2, iv (0 : Int32)] [] _
    exact X7.returnOut hx hret (hb hby d46_14) hr
  · exact ⟨rfl, N7, KK7, fc8, Fw7⟩
theorem pd_31 : parseMethodDescriptor "([Ljava/lang/Object;Z)V" = some ⟨[(.array (.object "java/lang/Object")), .boolean], none⟩ := by decide +kernel
theorem cw49 {a0 Z} (hw : HW a0 Z) : CM a0 Z s47 43 mn46 2 s47 (.code mn46 jdk_45_method_1_code 3 none) :=
  ⟨rfl, wx hw 327 rfl, wx hw 328 rfl, wx hw 330 rfl, wx hw 303 rfl, by decide, _, _, pd_31, rfl⟩
theorem d45_38 : DC cb45 38 (.areturn) 1 := by decide +kernel
theorem ef_45_56 (m : MethodId) (x0 : Addr) : entryFrame m #[(.ref x0)] 3 = mkF m 0 #[.val (.ref x0), .unset, .unset] [] := by first | (simp [entryFrame, mkF, argsToLocals, Value.category]; done) | rfl
theorem rm45_0 (l : Launch) (Z : State) (a0 : Array Value) (hw : HW a0 Z) (a1 a2 a3 a4 : Addr) (k5 : ClassId) (h0 : Heap) (n0 : Nat) (OL0 : Old Z n0 h0) (pr1 : Arv Z h0 a1 k5 (.object s37) (3 : Int32) [(.ref a2), (.ref a3), (.ref a4)] .null) (pr2 : Exa Z h0 a2 s29) (pr3 : Exa Z h0 a3 s29) (pr4 : Exa Z h0 a4 s29) :
    MF l Z mn45 jdk_56_method_4_code 3 (some (.object s52)) ⟨5, 2, 5, 63⟩ #[(.ref a1)] h0 (fun v h L => ∃ b32 : Addr, ∃ b7 : Addr, ∃ k7 : ClassId, v = some (.ref b32) ∧ Fr n0 L ∧ Keep h0 h [] ∧ h0.size ≤ b32 ∧ h0.size ≤ b7 ∧ b32 ≠ b7 ∧ Exa Z h b32 s51 ∧ Fld Z h b32 s51 s33 s21 (.ref b7) ∧ Fld Z h b32 s51 s22 "Z" (.int (0 : Int32)) ∧ Arv Z h b7 k7 (.object s37) (3 : Int32) [(.ref a2), (.ref a3), (.ref a4)] .null ∧ Ovr Z k7 s37 ∧ Exa Z h b7 s21) := by
  refine own_start (plainFor_of_name pn_9) (fun m => (ef_45_56 m a1)) ?_
  intro p e s m below meth c s₁ hZ hx hby hml hown hnm hret X0 e0
  have N0 := Fr.nil n0
  obtain ⟨cl6, Ar6, -, Sz6, Nn6, -, -⟩ := id pr1
  obtain ⟨T7, h7, k7, X7, e7, E7, A7, AE7, O7, st7⟩ := newRE (ad := s21) X0 hx hZ hown (wd324 hw) (wd139 hw) e0 (g := (mkF m 2 #[rv a1, uu, uu] [(.int (3 : Int32))])) rfl (hb hby d45_2) rfl (by decide) (cap := 3) (by decide) (by decide) (by decide) (by decide) (by decide)
  obtain ⟨b7, g7⟩ : ∃ z, z = h0.size := ⟨_, rfl⟩
  rw [← g7] at A7 AE7 st7
  have V7 : Arv Z h7 b7 k7 (.object s37) (3 : Int32) [.null, .null, .null] .null := (Arv.new A7 (by decide)).pad (pad_rep [] .null 3)
  have g_b7 : n0 ≤ b7 := (Nat.le_trans (Nat.le_trans (Nat.le_of_eq OL0.1.symm) OL0.2.1) (Nat.le_of_eq g7.symm))
  have sz_b7 : h0.size ≤ b7 := (Nat.le_trans (Keep.refl h0 []).1 (Nat.le_of_eq g7.symm))
  have KK7 : Keep h0 h7 [] := (Keep.refl h0 []).ext E7
  have OL7 := OL0.ext E7
  have fc8 := (pr1.ext E7)
  obtain ⟨cl9, Ar9, -, Sz9, Nn9, -, -⟩ := id fc8
  obtain ⟨_, T11, L11, X11, hQ11, st11⟩ := own_cS X7 hx hZ hown hml (cw47 hw) (rm31_0 l Z a0 hw a2 h7 n0 OL7 ) e7 19 #[rv a1, rv b7, iv (0 : Int32)] [(.ref a2)] [(.int (0 : Int32)), (.ref b7)] 2 rfl (hb hby d45_19) (by decide)
  obtain ⟨rfl, Nq11, ec11⟩ := hQ11
  have N11 := Fr.app N0 Nq11
  obtain ⟨cl12, Ar12, q12, S12, M12, Hs12, G12⟩ := id V7
  have hin12 : ¬ ((0 : Int32) < 0 ∨ cl12.slots.size ≤ ((0 : Int32)).toNatClampNeg) := inb_of S12 ⟨by decide, by decide⟩
  have fc13 := (pr2.ext E7)
  obtain ⟨T14, h14, X14, e14, W14, st14⟩ := stR X11 hx hZ ec11 Ar12 (j := (0 : Int32)) hin12 rfl (Sto.ofV Ar12 q12 O7 (Ins.of_exa fc13 (wd140 hw))) (g := (mkF m 22 #[rv a1, rv b7, iv (0 : Int32)] [(.ref a2), (.int (0 : Int32)), (.ref b7)])) rfl rfl (hb hby d45_22)
  have V14 : Arv Z h14 b7 k7 (.object s37) (3 : Int32) [(.ref a2), .null, .null] .null := Arv.set Ar12 q12 S12 M12 Hs12 G12 rfl W14 0 rfl (Nat.le_of_ble_eq_true rfl)
  have KK14 : Keep h0 h14 [] := KK7.wr W14 (Or.inr sz_b7)
  have OL14 := OL7.wr W14 g_b7
  have N14 := Fr.snoc X14 N11 g_b7
  have nz15 := nl pr1.lt sz_b7
  have fc16 := (fc8.other W14 nz15)
  obtain ⟨cl17, Ar17, -, Sz17, Nn17, -, -⟩ := id fc16
  obtain ⟨_, T19, L19, X19, hQ19, st19⟩ := own_cS X14 hx hZ hown hml (cw47 hw) (rm31_0 l Z a0 hw a3 h14 n0 OL14 ) e14 19 #[rv a1, rv b7, iv (1 : Int32)] [(.ref a3)] [(.int (1 : Int32)), (.ref b7)] 2 rfl (hb hby d45_19) (by decide)
  obtain ⟨rfl, Nq19, ec19⟩ := hQ19
  have N19 := Fr.app N14 Nq19
  obtain ⟨cl20, Ar20, q20, S20, M20, Hs20, G20⟩ := id V14
  have hin20 : ¬ ((1 : Int32) < 0 ∨ cl20.slots.size ≤ ((1 : Int32)).toNatClampNeg) := inb_of S20 ⟨by decide, by decide⟩
  have fc21 := ((pr3.ext E7).wr W14)
  obtain ⟨T22, h22, X22, e22, W22, st22⟩ := stR X19 hx hZ ec19 Ar20 (j := (1 : Int32)) hin20 rfl (Sto.ofV Ar20 q20 O7 (Ins.of_exa fc21 (wd140 hw))) (g := (mkF m 22 #[rv a1, rv b7, iv (1 : Int32)] [(.ref a3), (.int (1 : Int32)), (.ref b7)])) rfl rfl (hb hby d45_22)
  have V22 : Arv Z h22 b7 k7 (.object s37) (3 : Int32) [(.ref a2), (.ref a3), .null] .null := Arv.set Ar20 q20 S20 M20 Hs20 G20 rfl W22 1 rfl (Nat.le_of_ble_eq_true rfl)
  have KK22 : Keep h0 h22 [] := KK14.wr W22 (Or.inr sz_b7)
  have OL22 := OL14.wr W22 g_b7
  have N22 := Fr.snoc X22 N19 g_b7
  have fc23 := (fc16.other W22 nz15)
  obtain ⟨cl24, Ar24, -, Sz24, Nn24, -, -⟩ := id fc23
  obtain ⟨_, T26, L26, X26, hQ26, st26⟩ := own_cS X22 hx hZ hown hml (cw47 hw) (rm31_0 l Z a0 hw a4 h22 n0 OL22 ) e22 19 #[rv a1, rv b7, iv (2 : Int32)] [(.ref a4)] [(.int (2 : Int32)), (.ref b7)] 2 rfl (hb hby d45_19) (by decide)
  obtain ⟨rfl, Nq26, ec26⟩ := hQ26
  have N26 := Fr.app N22 Nq26
  obtain ⟨cl27, Ar27, q27, S27, M27, Hs27, G27⟩ := id V22
  have hin27 : ¬ ((2 : Int32) < 0 ∨ cl27.slots.size ≤ ((2 : Int32)).toNatClampNeg) := inb_of S27 ⟨by decide, by decide⟩
  have fc28 := (((pr4.ext E7).wr W14).wr W22)
  obtain ⟨T29, h29, X29, e29, W29, st29⟩ := stR X26 hx hZ ec26 Ar27 (j := (2 : Int32)) hin27 rfl (Sto.ofV Ar27 q27 O7 (Ins.of_exa fc28 (wd140 hw))) (g := (mkF m 22 #[rv a1, rv b7, iv (2 : Int32)] [(.ref a4), (.int (2 : Int32)), (.ref b7)])) rfl rfl (hb hby d45_22)
  have V29 : Arv Z h29 b7 k7 (.object s37) (3 : Int32) [(.ref a2), (.ref a3), (.ref a4)] .null := Arv.set Ar27 q27 S27 M27 Hs27 G27 rfl W29 2 rfl (Nat.le_of_ble_eq_true rfl)
  have KK29 : Keep h0 h29 [] := KK22.wr W29 (Or.inr sz_b7)
  have OL29 := OL22.wr W29 g_b7
  have N29 := Fr.snoc X29 N26 g_b7
  have fc30 := (fc23.other W29 nz15)
  obtain ⟨cl31, Ar31, -, Sz31, Nn31, -, -⟩ := id fc30
  obtain ⟨T32, h32, X32, e32, E32, A32, D32, -, st32⟩ := newO X29 hx hZ hown (wd161 hw) (wd326 hw) (wd303 hw) e29 (g := (mkF m 29 #[rv a1, rv b7, iv (3 : Int32)] [])) rfl (hb hby d45_29) (by decide) (by decide)
  obtain ⟨b32, g32⟩ : ∃ z, z = h29.size := ⟨_, rfl⟩
  rw [← g32] at A32 D32 st32
  have g_b32 : n0 ≤ b32 := (Nat.le_trans (Nat.le_trans (Nat.le_of_eq OL29.1.symm) OL29.2.1) (Nat.le_of_eq g32.symm))
  have sz_b32 : h0.size ≤ b32 := (Nat.le_trans KK29.1 (Nat.le_of_eq g32.symm))
  have KK32 : Keep h0 h32 [] := KK29.ext E32
  have OL32 := OL29.ext E32
  have F_elements_b32 : Fld Z h32 b32 s51 s33 s21 .null := D32 (Or.inr (wd306 hw)) (ty := (.array (.object s37))) (by decide)
  have F_allowNulls_b32 : Fld Z h32 b32 s51 s22 "Z" (.int (0 : Int32)) := D32 (Or.inr (wd336 hw)) (ty := .boolean) (by decide)
  obtain ⟨_, T33, L33, X33, hQ33, st33⟩ := own_cM X32 hx hZ hown hml (cw49 hw) (rm46_0 l Z a0 hw b32 b7 h32 n0 OL32 A32 F_elements_b32 g_b32 F_allowNulls_b32) e32 b32 35 #[rv a1, rv b7, iv (3 : Int32)] [(.ref b7), (.int (0 : Int32))] [(.ref b32)] 1 rfl (hb hby d45_35) (by decide)
  obtain ⟨rfl, Nq33, K33, u33_0, u33_1⟩ := hQ33
  have KK33 : Keep h0 T33.heap [] := KK32.trans K33 (allS (Or.inr sz_b32) all0)
  have N33 := Fr.app N29 Nq33
  have nz34 := (nl V29.lt (Nat.le_of_eq g32.symm))
  have fc35 := (A32.keep K33)
  have fc36 := ((V29.ext E32).keep K33 (ninS nz34 nin0))
  have fc37 := (((((AE7.wr W14).wr W22).wr W29).ext E32).keep K33)
  refine ⟨some (.ref b32), _, _, _, _, _, X33, rfl, by decide, nofun, fun fs hr => ?_, ?_⟩
  · refine XS.aloadN X0.here hx rfl (hb hby d45_0) rfl rfl ?_
    show SS p e below s₁ m 1 #[rv a1, uu, uu] [(.ref a1)] _
    refine X0.arraylength hx (by rw [e0]; exact Ar6.1) (State.isArrayOf_alike hZ.alike Ar6.2.1) (g := (mkF m 1 #[rv a1, uu, uu] [(.ref a1)])) rfl rfl (hb hby d45_1) _ ?_
    rw [len_of Sz6 Nn6]
    refine st7 _ ?_
    refine XS.astoreN X7.here hx rfl (hb hby d45_5) rfl rfl (l' := #[rv a1, rv b7, uu]) rfl ?_
    refine XS.iconst X7.here hx rfl (hb hby d45_6) ?_
    refine XS.istoreN X7.here hx rfl (hb hby d45_7) rfl (l' := #[rv a1, rv b7, iv (0 : Int32)]) rfl ?_
    refine XS.iloadN X7.here hx rfl (hb hby d45_8) rfl ?_
    refine XS.aloadN X7.here hx rfl (hb hby d45_9) rfl rfl ?_
    refine X7.arraylength hx (by rw [e7]; exact Ar9.1) (State.isArrayOf_alike hZ.alike Ar9.2.1) (g := (mkF m 10 #[rv a1, rv b7, iv (0 : Int32)] [(.ref a1), (.int (0 : Int32))])) rfl rfl (hb hby d45_10) _ ?_
    rw [len_of Sz9 Nn9]
    refine XS.icmpNo X7.here hx rfl (hb hby d45_11) rfl (tlt (by decide : (0 : Int32) < (3 : Int32))).2.1 ?_
    refine XS.aloadN X7.here hx rfl (hb hby d45_14) rfl rfl ?_
    show SS p e below T7 m 15 #[rv a1, rv b7, iv (0 : Int32)] [(.ref b7)] _
    refine XS.iloadN X7.here hx rfl (hb hby d45_15) rfl ?_
    refine XS.aloadN X7.here hx rfl (hb hby d45_16) rfl rfl ?_
    refine XS.iloadN X7.here hx rfl (hb hby d45_17) rfl ?_
    refine own_laR X7 hx hZ e7 fc8 (v := (.ref a2)) (by decide) rfl rfl (hb hby d45_18) ?_
    refine st11 _ ?_
    refine st14 _ ?_
    refine XS.iinc X14.here hx rfl (hb hby d45_23) rfl (l' := #[rv a1, rv b7, .val (.int ((0 : Int32) + (1 : Int32)))]) rfl ?_
    refine XS.goto X14.here hx rfl (pc0 := 26) (pc' := 8) rfl (hb hby d45_26) (by decide) (by decide) ?_
    refine XS.iloadN X14.here hx rfl (hb hby d45_8) rfl ?_
    refine XS.aloadN X14.here hx rfl (hb hby d45_9) rfl rfl ?_
    show SS p e below T14 m 10 #[rv a1, rv b7, iv (1 : Int32)] [(.ref a1), (.int (1 : Int32))] _
    refine X14.arraylength hx (by rw [e14]; exact Ar17.1) (State.isArrayOf_alike hZ.alike Ar17.2.1) (g := (mkF m 10 #[rv a1, rv b7, iv (1 : Int32)] [(.ref a1), (.int (1 : Int32))])) rfl rfl (hb hby d45_10) _ ?_
    rw [len_of Sz17 Nn17]
    refine XS.icmpNo X14.here hx rfl (hb hby d45_11) rfl (tlt (by decide : (1 : Int32) < (3 : Int32))).2.1 ?_
    refine XS.aloadN X14.here hx rfl (hb hby d45_14) rfl rfl ?_
    refine XS.iloadN X14.here hx rfl (hb hby d45_15) rfl ?_
    refine XS.aloadN X14.here hx rfl (hb hby d45_16) rfl rfl ?_
    refine XS.iloadN X14.here hx rfl (hb hby d45_17) rfl ?_
    refine own_laR X14 hx hZ e14 fc16 (v := (.ref a3)) (by decide) rfl rfl (hb hby d45_18) ?_
    refine st19 _ ?_
    refine st22 _ ?_
    refine XS.iinc X22.here hx rfl (hb hby d45_23) rfl (l' := #[rv a1, rv b7, .val (.int ((1 : Int32) + (1 : Int32)))]) rfl ?_
    show SS p e below T22 m 26 #[rv a1, rv b7, iv (2 : Int32)] [] _
    refine XS.goto X22.here hx rfl (pc0 := 26) (pc' := 8) rfl (hb hby d45_26) (by decide) (by decide) ?_
    refine XS.iloadN X22.here hx rfl (hb hby d45_8) rfl ?_
    refine XS.aloadN X22.here hx rfl (hb hby d45_9) rfl rfl ?_
    refine X22.arraylength hx (by rw [e22]; exact Ar24.1) (State.isArrayOf_alike hZ.alike Ar24.2.1) (g := (mkF m 10 #[rv a1, rv b7, iv (2 : Int32)] [(.ref a1), (.int (2 : Int32))])) rfl rfl (hb hby d45_10) _ ?_
    rw [len_of Sz24 Nn24]
    refine XS.icmpNo X22.here hx rfl (hb hby d45_11) rfl (tlt (by decide : (2 : Int32) < (3 : Int32))).2.1 ?_
    refine XS.aloadN X22.here hx rfl (hb hby d45_14) rfl rfl ?_
    refine XS.iloadN X22.here hx rfl (hb hby d45_15) rfl ?_
    refine XS.aloadN X22.here hx rfl (hb hby d45_16) rfl rfl ?_
    refine XS.iloadN X22.here hx rfl (hb hby d45_17) rfl ?_
    refine own_laR X22 hx hZ e22 fc23 (v := (.ref a4)) (by decide) rfl rfl (hb hby d45_18) ?_
    show SS p e below T22 m 19 #[rv a1, rv b7, iv (2 : Int32)] [(.ref a4), (.int (2 : Int32)), (.ref b7)] _
    refine st26 _ ?_
    refine st29 _ ?_
    refine XS.iinc X29.here hx rfl (hb hby d45_23) rfl (l' := #[rv a1, rv b7, .val (.int ((2 : Int32) + (1 : Int32)))]) rfl ?_
    refine XS.goto X29.here hx rfl (pc0 := 26) (pc' := 8) rfl (hb hby d45_26) (by decide) (by decide) ?_
    refine XS.iloadN X29.here hx rfl (hb hby d45_8) rfl ?_
    refine XS.aloadN X29.here hx rfl (hb hby d45_9) rfl rfl ?_
    refine X29.arraylength hx (by rw [e29]; exact Ar31.1) (State.isArrayOf_alike hZ.alike Ar31.2.1) (g := (mkF m 10 #[rv a1, rv b7, iv (3 : Int32)] [(.ref a1), (.int (3 : Int32))])) rfl rfl (hb hby d45_10) _ ?_
    rw [len_of Sz31 Nn31]
    refine XS.icmpYes X29.here hx rfl (pc0 := 11) (pc' := 29) rfl (hb hby d45_11) rfl (flt (by decide : ¬ ((3 : Int32) < (3 : Int32)))).2.1 (by decide) (by decide) ?_
    refine st32 _ ?_
    refine XS.dup X32.here hx rfl (hb hby d45_32) rfl rfl ?_
    show SS p e below T32 m 33 #[rv a1, rv b7, iv (3 : Int32)] [(.ref b32), (.ref b32)] _
    refine XS.aloadN X32.here hx rfl (hb hby d45_33) rfl rfl ?_
    refine XS.iconst X32.here hx rfl (hb hby d45_34) ?_
    refine st33 _ ?_
    show SS p e below T33 m 38 #[rv a1, rv b7, iv (3 : Int32)] [(.ref b32)] _
    exact own_retR X33 hx hret rfl rfl rfl (hb hby d45_38) hr
  · exact ⟨b32, b7, k7, rfl, N33, KK33, sz_b32, sz_b7, (Ne.symm nz34), fc35, u33_0, u33_1, fc36, O7, fc37⟩
theorem cw50 {a0 Z} (hw : HW a0 Z) : CS a0 Z s52 109 mn45 1 (.code mn45 jdk_56_method_4_code 3 (some (.object s52))) :=
  ⟨wx hw 321 rfl, wx hw 322 rfl, wx hw 323 rfl, wx hw 154 rfl, by decide, _, _, pd_28, rfl⟩
theorem d27_63 : DC cb27 63 (.areturn) 1 := by decide +kernel
theorem rm27_2 (l : Launch) (Z : State) (a0 : Array Value) (hw : HW a0 Z) (a1 a2 a3 a4 : Addr) (k5 : ClassId) (h0 : Heap) (n0 : Nat) (OL0 : Old Z n0 h0) (pr1 : Arv Z h0 a1 k5 (.object s37) (3 : Int32) [(.ref a2), (.ref a3), (.ref a4)] .null) (pr2 : Exa Z h0 a2 s29) (pr3 : Exa Z h0 a3 s29) (pr4 : Exa Z h0 a4 s29) :
    MF l Z mn27 jdk_40_method_47_code 2 (some (.object s52)) ⟨6, 2, 5, 77⟩ #[(.ref a1)] h0 (fun v h L => ∃ b7_0 : Addr, ∃ b7_1 : Addr, ∃ kx7_0 : ClassId, v = some (.ref b7_0) ∧ Fr n0 L ∧ Keep h0 h [] ∧ h0.size ≤ b7_0 ∧ h0.size ≤ b7_1 ∧ b7_0 ≠ b7_1 ∧ Exa Z h b7_0 s51 ∧ Fld Z h b7_0 s51 s33 s21 (.ref b7_1) ∧ Fld Z h b7_0 s51 s22 "Z" (.int (0 : Int32)) ∧ Arv Z h b7_1 kx7_0 (.object s37) (3 : Int32) [(.ref a2), (.ref a3), (.ref a4)] .null ∧ Ovr Z kx7_0 s37 ∧ Exa Z h b7_1 s21) := by
  refine own_start (plainFor_of_name pn_8) (fun m => (ef_27_40 m a1)) ?_
  intro p e s m below meth c s₁ hZ hx hby hml hown hnm hret X0 e0
  have N0 := Fr.nil n0
  obtain ⟨cl6, Ar6, -, Sz6, Nn6, -, -⟩ := id pr1
  obtain ⟨_, T7, L7, X7, hQ7, st7⟩ := own_cS X0 hx hZ hown hml (cw50 hw) (rm45_0 l Z a0 hw a1 a2 a3 a4 k5 h0 n0 OL0 pr1 pr2 pr3 pr4) e0 60 #[rv a1, uu] [(.ref a1)] [] 0 rfl (hb hby d27_60) (by decide)
  obtain ⟨b7_0, b7_1, kx7_0, rfl, Nq7, K7, u7_0, u7_1, u7_2, u7_3, u7_4, u7_5, u7_6, u7_7, u7_8⟩ := hQ7
  have KK7 : Keep h0 T7.heap [] := (Keep.refl h0 []).trans K7 all0
  have sz_b7_0 : h0.size ≤ b7_0 := Nat.le_trans (Keep.refl h0 []).1 u7_0
  have sz_b7_1 : h0.size ≤ b7_1 := Nat.le_trans (Keep.refl h0 []).1 u7_1
  have N7 := Fr.app N0 Nq7
  refine ⟨some (.ref b7_0), _, _, _, _, _, X7, rfl, by decide, nofun, fun fs hr => ?_, ?_⟩
  · refine XS.aloadN X0.here hx rfl (hb hby d27_0) rfl rfl ?_
    show SS p e below s₁ m 1 #[rv a1, uu] [(.ref a1)] _
    refine X0.arraylength hx (by rw [e0]; exact Ar6.1) (State.isArrayOf_alike hZ.alike Ar6.2.1) (g := (mkF m 1 #[rv a1, uu] [(.ref a1)])) rfl rfl (hb hby d27_1) _ ?_
    rw [len_of Sz6 Nn6]
    refine XS.tswOut X0.here hx rfl (pc0 := 2) (pc' := 59) rfl (hb hby d27_2) rfl (by decide) (by decide) (by decide) ?_
    refine XS.aloadN X0.here hx rfl (hb hby d27_59) rfl rfl ?_
    refine st7 _ ?_
    show SS p e below T7 m 63 #[rv a1, uu] [(.ref b7_0)] _
    exact own_retR X7 hx hret rfl rfl rfl (hb hby d27_63) hr
  · exact ⟨b7_0, b7_1, kx7_0, rfl, N7, KK7, sz_b7_0, sz_b7_1, u7_2, u7_3, u7_4, u7_5, u7_6, u7_7, u7_8⟩
theorem rm21_3 (l : Launch) (Z : State) (a0 : Array Value) (hw : HW a0 Z) (a1 a5 w6 a7 a8 a9 : Addr) (k10 : ClassId) (h0 : Heap) (n0 : Nat) (OL0 : Old Z n0 h0) (pr1 : Exa Z h0 a1 s44) (pr2 : Fld Z h0 a1 s44 "size" "I" (.int (3 : Int32))) (pr3 : Fld Z h0 a1 s44 s32 s21 (.ref a5)) (pr4 : MirM Z s21 w6) (pr5 : Exa Z h0 a5 s21) (pr6 : Arv Z h0 a5 k10 (.object s37) (10 : Int32) [(.ref a7), (.ref a8), (.ref a9), .null, .null, .null, .null, .null, .null, .null] .null) (pr7 : Exa Z h0 a9 s29) (pr8 : Exa Z h0 a8 s29) (pr9 : Exa Z h0 a7 s29) :
    MF l Z mn21 jdk_56_method_3_code 2 (some (.object s52)) ⟨7, 3, 8, 90⟩ #[(.ref a1)] h0 (fun v h L => ∃ b12_0 : Addr, ∃ b12_1 : Addr, ∃ kx12_0 : ClassId, v = some (.ref b12_0) ∧ Fr n0 L ∧ Keep h0 h [] ∧ h0.size ≤ b12_0 ∧ h0.size ≤ b12_1 ∧ b12_0 ≠ b12_1 ∧ Exa Z h b12_0 s51 ∧ Fld Z h b12_0 s51 s33 s21 (.ref b12_1) ∧ Fld Z h b12_0 s51 s22 "Z" (.int (0 : Int32)) ∧ Arv Z h b12_1 kx12_0 (.object s37) (3 : Int32) [(.ref a7), (.ref a8), (.ref a9)] .null ∧ Ovr Z kx12_0 s37 ∧ Exa Z h b12_1 s21) := by
  refine own_start (plainFor_of_name pn_9) (fun m => (ef_21_13 m a1)) ?_
  intro p e s m below meth c s₁ hZ hx hby hml hown hnm hret X0 e0
  have N0 := Fr.nil n0
  obtain ⟨T2, X2, e2, st2⟩ := instNo X0 hx hZ hown (wd156 hw) e0 pr1 (own_no (wd157 hw) (NI.inst (wd205 hw)) (NS.step (wd157 hw) (NS.step (wd158 hw) (NS.step (wd159 hw) (own_root (wd160 hw) (NI.inst (wd205 hw)) (by decide)) (by decide)) (by decide)) (by decide)) (by decide)) (g := (mkF m 1 #[rv a1, uu] [(.ref a1)])) rfl rfl (hb hby d21_1)
  obtain ⟨T3, X3, e3, st3⟩ := instNo X2 hx hZ hown (wd161 hw) e2 pr1 (own_no (wd157 hw) (NI.inst (wd326 hw)) (NS.step (wd157 hw) (NS.step (wd158 hw) (NS.step (wd159 hw) (own_root (wd160 hw) (NI.inst (wd326 hw)) (by decide)) (by decide)) (by decide)) (by decide)) (by decide)) (g := (mkF m 8 #[rv a1, uu] [(.ref a1)])) rfl rfl (hb hby d21_8)
  obtain ⟨_, T4, L4, X4, hQ4, st4⟩ := own_cI X3 hx hZ hown hml (cw12 hw) (rm22_3 l Z a0 hw a1 h0 n0 OL0 pr2) e3 pr1 32 #[rv a1, uu] [] [] 0 rfl (hb hby d21_32) (by decide)
  obtain ⟨rfl, Nq4, ec4⟩ := hQ4
  have N4 := Fr.app N0 Nq4
  obtain ⟨_, T11, L11, X11, hQ11, st11⟩ := own_cI X4 hx hZ hown hml (cw37 hw) (rm23_2 l Z a0 hw a1 a5 w6 a7 a8 a9 k10 h0 n0 OL0 pr3 pr2 pr4 pr5 pr6 pr7 pr8 pr9) ec4 pr1 45 #[rv a1, uu] [] [] 0 rfl (hb hby d21_45) (by decide)
  obtain ⟨b11_0, kx11_0, rfl, Nq11, K11, u11_0, u11_1, u11_2, u11_3⟩ := hQ11
  have KK11 : Keep h0 T11.heap [] := (Keep.refl h0 []).trans K11 all0
  have OL11 := OL0.keep K11 all0
  have N11 := Fr.app N4 Nq11
  have fc13 := (pr9.keep K11)
  have fc14 := (pr8.keep K11)
  have fc15 := (pr7.keep K11)
  obtain ⟨_, T12, L12, X12, hQ12, st12⟩ := own_cS X11 hx hZ hown hml (cw43 hw) (rm27_2 l Z a0 hw b11_0 a7 a8 a9 kx11_0 T11.heap n0 OL11 u11_1 fc13 fc14 fc15) rfl 50 #[rv a1, uu] [(.ref b11_0)] [] 0 rfl (hb hby d21_50) (by decide)
  obtain ⟨b12_0, b12_1, kx12_0, rfl, Nq12, K12, u12_0, u12_1, u12_2, u12_3, u12_4, u12_5, u12_6, u12_7, u12_8⟩ := hQ12
  have KK12 : Keep h0 T12.heap [] := KK11.trans K12 all0
  have sz_b12_0 : h0.size ≤ b12_0 := Nat.le_trans KK11.1 u12_0
  have sz_b12_1 : h0.size ≤ b12_1 := Nat.le_trans KK11.1 u12_1
  have N12 := Fr.app N11 Nq12
  refine ⟨some (.ref b12_0), _, _, _, _, _, X12, rfl, by decide, nofun, fun fs hr => ?_, ?_⟩
  · refine XS.aloadN X0.here hx rfl (hb hby d21_0) rfl rfl ?_
    show SS p e below s₁ m 1 #[rv a1, uu] [(.ref a1)] _
    refine st2 _ ?_
    refine XS.ifNo X2.here hx rfl (hb hby d21_4) rfl ((if0 _ _).trans (teq (rfl : (0 : Int32) = (0 : Int32))).2) ?_
    refine XS.aloadN X2.here hx rfl (hb hby d21_7) rfl rfl ?_
    refine st3 _ ?_
    refine XS.ifYes X3.here hx rfl (pc0 := 11) (pc' := 31) rfl (hb hby d21_11) rfl ((if0 _ _).trans (teq (rfl : (0 : Int32) = (0 : Int32))).1) (by decide) (by decide) ?_
    refine XS.aloadN X3.here hx rfl (hb hby d21_31) rfl rfl ?_
    refine st4 _ ?_
    refine XS.ifYes X4.here hx rfl (pc0 := 37) (pc' := 44) rfl (hb hby d21_37) rfl ((if0 _ _).trans (teq (rfl : (0 : Int32) = (0 : Int32))).1) (by decide) (by decide) ?_
    refine XS.aloadN X4.here hx rfl (hb hby d21_44) rfl rfl ?_
    refine st11 _ ?_
    show SS p e below T11 m 50 #[rv a1, uu] [(.ref b11_0)] _
    refine st12 _ ?_
    show SS p e below T12 m 53 #[rv a1, uu] [(.ref b12_0)] _
    exact own_retR X12 hx hret rfl rfl rfl (hb hby d21_53) hr
  · exact ⟨b12_0, b12_1, kx12_0, rfl, N12, KK12, sz_b12_0, sz_b12_1, u12_2, u12_3, u12_4, u12_5, u12_6, u12_7, u12_8⟩
theorem rm20_3 (l : Launch) (Z : State) (a0 : Array Value) (hw : HW a0 Z) (a1 a2 w3 a4 a5 a6 : Addr) (k7 : ClassId) (h0 : Heap) (n0 : Nat) (OL0 : Old Z n0 h0) (pr1 : Exa Z h0 a1 s44) (pr2 : Fld Z h0 a1 s44 "size" "I" (.int (3 : Int32))) (pr3 : Fld Z h0 a1 s44 s32 s21 (.ref a2)) (pr4 : MirM Z s21 w3) (pr5 : Exa Z h0 a2 s21) (pr6 : Arv Z h0 a2 k7 (.object s37) (10 : Int32) [(.ref a4), (.ref a5), (.ref a6), .null, .null, .null, .null, .null, .null, .null] .null) (pr7 : Exa Z h0 a6 s29) (pr8 : Exa Z h0 a5 s29) (pr9 : Exa Z h0 a4 s29) :
    MF l Z mn20 jdk_40_method_48_code 1 (some (.object s52)) ⟨8, 3, 8, 103⟩ #[(.ref a1)] h0 (fun v h L => ∃ b8_0 : Addr, ∃ b8_1 : Addr, ∃ kx8_0 : ClassId, v = some (.ref b8_0) ∧ Fr n0 L ∧ Keep h0 h [] ∧ h0.size ≤ b8_0 ∧ h0.size ≤ b8_1 ∧ b8_0 ≠ b8_1 ∧ Exa Z h b8_0 s51 ∧ Fld Z h b8_0 s51 s33 s21 (.ref b8_1) ∧ Fld Z h b8_0 s51 s22 "Z" (.int (0 : Int32)) ∧ Arv Z h b8_1 kx8_0 (.object s37) (3 : Int32) [(.ref a4), (.ref a5), (.ref a6)] .null ∧ Ovr Z kx8_0 s37 ∧ Exa Z h b8_1 s21) := by
  refine own_start (plainFor_of_name pn_8) (fun m => (ef_20_14 m a1)) ?_
  intro p e s m below meth c s₁ hZ hx hby hml hown hnm hret X0 e0
  have N0 := Fr.nil n0
  obtain ⟨_, T8, L8, X8, hQ8, st8⟩ := own_cS X0 hx hZ hown hml (cw14 hw) (rm21_3 l Z a0 hw a1 a2 w3 a4 a5 a6 k7 h0 n0 OL0 pr1 pr2 pr3 pr4 pr5 pr6 pr7 pr8 pr9) e0 1 #[rv a1] [(.ref a1)] [] 0 rfl (hb hby d20_1) (by decide)
  obtain ⟨b8_0, b8_1, kx8_0, rfl, Nq8, K8, u8_0, u8_1, u8_2, u8_3, u8_4, u8_5, u8_6, u8_7, u8_8⟩ := hQ8
  have KK8 : Keep h0 T8.heap [] := (Keep.refl h0 []).trans K8 all0
  have sz_b8_0 : h0.size ≤ b8_0 := Nat.le_trans (Keep.refl h0 []).1 u8_0
  have sz_b8_1 : h0.size ≤ b8_1 := Nat.le_trans (Keep.refl h0 []).1 u8_1
  have N8 := Fr.app N0 Nq8
  refine ⟨some (.ref b8_0), _, _, _, _, _, X8, rfl, by decide, nofun, fun fs hr => ?_, ?_⟩
  · refine XS.aloadN X0.here hx rfl (hb hby d20_0) rfl rfl ?_
    show SS p e below s₁ m 1 #[rv a1] [(.ref a1)] _
    refine st8 _ ?_
    show SS p e below T8 m 4 #[rv a1] [(.ref b8_0)] _
    exact own_retR X8 hx hret rfl rfl rfl (hb hby d20_4) hr
  · exact ⟨b8_0, b8_1, kx8_0, rfl, N8, KK8, sz_b8_0, sz_b8_1, u8_2, u8_3, u8_4, u8_5, u8_6, u8_7, u8_8⟩
theorem rm19_3 (l : Launch) (Z : State) (a0 : Array Value) (hw : HW a0 Z) (a1 a2 a3 w4 a5 a7 w8 a9 a10 a11 : Addr) (k12 : ClassId) (h0 : Heap) (n0 : Nat) (OL0 : Old Z n0 h0) (pr1 : Exa Z h0 a5 s44) (pr2 : Fld Z h0 a5 s44 "size" "I" (.int (3 : Int32))) (pr3 : Fld Z h0 a5 s44 s32 s21 (.ref a7)) (pr4 : MirM Z s21 w8) (pr5 : Exa Z h0 a7 s21) (pr6 : Arv Z h0 a7 k12 (.object s37) (10 : Int32) [(.ref a9), (.ref a10), (.ref a11), .null, .null, .null, .null, .null, .null, .null] .null) (pr7 : Exa Z h0 a11 s29) (pr8 : Exa Z h0 a10 s29) (pr9 : Exa Z h0 a9 s29) (pr10 : Exa Z h0 a1 s27) (pr11 : Fld Z h0 a1 s27 "id" s11 .null) (pr12 : n0 ≤ a1) (pr13 : Fld Z h0 a1 s27 "name" s11 .null) (pr14 : Fld Z h0 a1 s27 "basis" s9 .null) (pr15 : Fld Z h0 a1 s27 "onlyFor" s16 .null) (pr16 : Fld Z h0 a1 s27 s24 s16 .null) (pr17 : Fld Z h0 a1 s27 "prices" s15 .null) :
    MF l Z mn19 prog_22_method_1_code 7 none ⟨9, 3, 8, 115⟩ #[(.ref a1), (.ref a2), (.ref a3), (.ref w4), .null, .null, (.ref a5)] h0 (fun v h L => ∃ b13_0 : Addr, ∃ b13_1 : Addr, ∃ kx13_0 : ClassId, v = none ∧ Fr n0 L ∧ Keep h0 h [a1] ∧ h0.size ≤ b13_0 ∧ h0.size ≤ b13_1 ∧ b13_0 ≠ b13_1 ∧ Fld Z h a1 s27 "id" s11 (.ref a2) ∧ Fld Z h a1 s27 "name" s11 (.ref a3) ∧ Fld Z h a1 s27 "basis" s9 (.ref w4) ∧ Fld Z h a1 s27 "onlyFor" s16 .null ∧ Fld Z h a1 s27 s24 s16 .null ∧ Fld Z h a1 s27 "prices" s15 (.ref b13_0) ∧ Exa Z h b13_0 s51 ∧ Fld Z h b13_0 s51 s33 s21 (.ref b13_1) ∧ Fld Z h b13_0 s51 s22 "Z" (.int (0 : Int32)) ∧ Arv Z h b13_1 kx13_0 (.object s37) (3 : Int32) [(.ref a9), (.ref a10), (.ref a11)] .null ∧ Ovr Z kx13_0 s37 ∧ Exa Z h b13_1 s21) := by
  refine own_start (plainFor_of_name pn_10) (fun m => (ef_19_15 m a1 a2 a3 w4 a5)) ?_
  intro p e s m below meth c s₁ hZ hx hby hml hown hnm hret X0 e0
  have N0 := Fr.nil n0
  obtain ⟨_, T6, L6, X6, hQ6, st6⟩ := own_cN X0 hx hZ hown hml (cw11 hw) (rm2_0 l Z a0 hw a1 h0 n0 OL0 ) e0 a1 1 #[rv a1, rv a2, rv a3, rv w4, .val .null, .val .null, rv a5] [] [] 0 rfl (hb hby d19_1) (by decide)
  obtain ⟨rfl, Nq6, ec6⟩ := hQ6
  have N6 := Fr.app N0 Nq6
  obtain ⟨_, T13, L13, X13, hQ13, st13⟩ := own_cS X6 hx hZ hown hml (cw15 hw) (rm20_3 l Z a0 hw a5 a7 w8 a9 a10 a11 k12 h0 n0 OL0 pr1 pr2 pr3 pr4 pr5 pr6 pr7 pr8 pr9) ec6 6 #[rv a1, rv a2, rv a3, rv w4, .val .null, .val .null, rv a5] [(.ref a5)] [] 0 rfl (hb hby d19_6) (by decide)
  obtain ⟨b13_0, b13_1, kx13_0, rfl, Nq13, K13, u13_0, u13_1, u13_2, u13_3, u13_4, u13_5, u13_6, u13_7, u13_8⟩ := hQ13
  have KK13 : Keep h0 T13.heap [a1] := (Keep.refl h0 [a1]).trans K13 all0
  have sz_b13_0 : h0.size ≤ b13_0 := Nat.le_trans (Keep.refl h0 [a1]).1 u13_0
  have sz_b13_1 : h0.size ≤ b13_1 := Nat.le_trans (Keep.refl h0 [a1]).1 u13_1
  have N13 := Fr.app N6 Nq13
  have fc14 := (pr10.keep K13)
  have fc15 := (pr11.keep K13 nin0)
  obtain ⟨T16, h16, X16, e16, W16, st16⟩ := putF X13 hx hZ hown (host := "") (Or.inl (wd234 hw)) Via.refl rfl fc15 fc14 (Or.inr ⟨(wd235 hw), rfl, hnm⟩) (wd142 hw) (ty := (.object s39)) (by decide) rfl rfl (g := (mkF m 13 #[rv a1, rv a2, rv a3, rv w4, .val .null, .val .null, rv b13_0] [(.ref a2), (.ref a1)])) rfl rfl (hb hby d19_13)
  have Fw16 := fc15.same W16
  have KK16 : Keep h0 h16 [a1] := KK13.wr W16 (Or.inl (List.mem_of_getElem? (i := 0) rfl))
  have N16 := Fr.snoc X16 N13 pr12
  have fc17 := (fc14.wr W16)
  have fc18 := ((pr13.keep K13 nin0).other W16 (Or.inr (slot_ne (Or.inr (wd237 hw)) (Or.inr (wd235 hw)) (by decide) (t := (.object s39)) (t' := (.object s39)) (by decide) (by decide))))
  obtain ⟨T19, h19, X19, e19, W19, st19⟩ := putF X16 hx hZ hown (host := "") (Or.inl (wd236 hw)) Via.refl e16 fc18 fc17 (Or.inr ⟨(wd237 hw), rfl, hnm⟩) (wd142 hw) (ty := (.object s39)) (by decide) rfl rfl (g := (mkF m 18 #[rv a1, rv a2, rv a3, rv w4, .val .null, .val .null, rv b13_0] [(.ref a3), (.ref a1)])) rfl rfl (hb hby d19_18)
  have Fw19 := fc18.same W19
  have KK19 : Keep h0 h19 [a1] := KK16.wr W19 (Or.inl (List.mem_of_getElem? (i := 0) rfl))
  have N19 := Fr.snoc X19 N16 pr12
  have fc20 := (fc17.wr W19)
  have fc21 := (((pr14.keep K13 nin0).other W16 (Or.inr (slot_ne (Or.inr (wd239 hw)) (Or.inr (wd235 hw)) (by decide) (t := (.object s26)) (t' := (.object s39)) (by decide) (by decide)))).other W19 (Or.inr (slot_ne (Or.inr (wd239 hw)) (Or.inr (wd237 hw)) (by decide) (t := (.object s26)) (t' := (.object s39)) (by decide) (by decide))))
  obtain ⟨T22, h22, X22, e22, W22, st22⟩ := putF X19 hx hZ hown (host := "") (Or.inl (wd238 hw)) Via.refl e19 fc21 fc20 (Or.inr ⟨(wd239 hw), rfl, hnm⟩) (wd142 hw) (ty := (.object s26)) (by decide) rfl rfl (g := (mkF m 23 #[rv a1, rv a2, rv a3, rv w4, .val .null, .val .null, rv b13_0] [(.ref w4), (.ref a1)])) rfl rfl (hb hby d19_23)
  have Fw22 := fc21.same W22
  have KK22 : Keep h0 h22 [a1] := KK19.wr W22 (Or.inl (List.mem_of_getElem? (i := 0) rfl))
  have N22 := Fr.snoc X22 N19 pr12
  have fc23 := (fc20.wr W22)
  have fc24 := ((((pr15.keep K13 nin0).other W16 (Or.inr (slot_ne (Or.inr (wd241 hw)) (Or.inr (wd235 hw)) (by decide) (t := (.object s54)) (t' := (.object s39)) (by decide) (by decide)))).other W19 (Or.inr (slot_ne (Or.inr (wd241 hw)) (Or.inr (wd237 hw)) (by decide) (t := (.object s54)) (t' := (.object s39)) (by decide) (by decide)))).other W22 (Or.inr (slot_ne (Or.inr (wd241 hw)) (Or.inr (wd239 hw)) (by decide) (t := (.object s54)) (t' := (.object s26)) (by decide) (by decide))))
  obtain ⟨T25, h25, X25, e25, W25, st25⟩ := putF X22 hx hZ hown (host := "") (Or.inl (wd240 hw)) Via.refl e22 fc24 fc23 (Or.inr ⟨(wd241 hw), rfl, hnm⟩) (wd142 hw) (ty := (.object s54)) (by decide) rfl rfl (g := (mkF m 29 #[rv a1, rv a2, rv a3, rv w4, .val .null, .val .null, rv b13_0] [.null, (.ref a1)])) rfl rfl (hb hby d19_29)
  have Fw25 := fc24.same W25
  have KK25 : Keep h0 h25 [a1] := KK22.wr W25 (Or.inl (List.mem_of_getElem? (i := 0) rfl))
  have N25 := Fr.snoc X25 N22 pr12
  have fc26 := (fc23.wr W25)
  have fc27 := (((((pr16.keep K13 nin0).other W16 (Or.inr (slot_ne (Or.inr (wd243 hw)) (Or.inr (wd235 hw)) (by decide) (t := (.object s54)) (t' := (.object s39)) (by decide) (by decide)))).other W19 (Or.inr (slot_ne (Or.inr (wd243 hw)) (Or.inr (wd237 hw)) (by decide) (t := (.object s54)) (t' := (.object s39)) (by decide) (by decide)))).other W22 (Or.inr (slot_ne (Or.inr (wd243 hw)) (Or.inr (wd239 hw)) (by decide) (t := (.object s54)) (t' := (.object s26)) (by decide) (by decide)))).other W25 (Or.inr (slot_ne (Or.inr (wd243 hw)) (Or.inr (wd241 hw)) (by decide) (t := (.object s54)) (t' := (.object s54)) (by decide) (by decide))))
  obtain ⟨T28, h28, X28, e28, W28, st28⟩ := putF X25 hx hZ hown (host := "") (Or.inl (wd242 hw)) Via.refl e25 fc27 fc26 (Or.inr ⟨(wd243 hw), rfl, hnm⟩) (wd142 hw) (ty := (.object s54)) (by decide) rfl rfl (g := (mkF m 35 #[rv a1, rv a2, rv a3, rv w4, .val .null, .val .null, rv b13_0] [.null, (.ref a1)])) rfl rfl (hb hby d19_35)
  have Fw28 := fc27.same W28
  have KK28 : Keep h0 h28 [a1] := KK25.wr W28 (Or.inl (List.mem_of_getElem? (i := 0) rfl))
  have N28 := Fr.snoc X28 N25 pr12
  have fc29 := (fc26.wr W28)
  have fc30 := ((((((pr17.keep K13 nin0).other W16 (Or.inr (slot_ne (Or.inr (wd245 hw)) (Or.inr (wd235 hw)) (by decide) (t := (.object s52)) (t' := (.object s39)) (by decide) (by decide)))).other W19 (Or.inr (slot_ne (Or.inr (wd245 hw)) (Or.inr (wd237 hw)) (by decide) (t := (.object s52)) (t' := (.object s39)) (by decide) (by decide)))).other W22 (Or.inr (slot_ne (Or.inr (wd245 hw)) (Or.inr (wd239 hw)) (by decide) (t := (.object s52)) (t' := (.object s26)) (by decide) (by decide)))).other W25 (Or.inr (slot_ne (Or.inr (wd245 hw)) (Or.inr (wd241 hw)) (by decide) (t := (.object s52)) (t' := (.object s54)) (by decide) (by decide)))).other W28 (Or.inr (slot_ne (Or.inr (wd245 hw)) (Or.inr (wd243 hw)) (by decide) (t := (.object s52)) (t' := (.object s54)) (by decide) (by decide))))
  obtain ⟨T31, h31, X31, e31, W31, st31⟩ := putF X28 hx hZ hown (host := "") (Or.inl (wd244 hw)) Via.refl e28 fc30 fc29 (Or.inr ⟨(wd245 hw), rfl, hnm⟩) (wd142 hw) (ty := (.object s52)) (by decide) rfl rfl (g := (mkF m 41 #[rv a1, rv a2, rv a3, rv w4, .val .null, .val .null, rv b13_0] [(.ref b13_0), (.ref a1)])) rfl rfl (hb hby d19_41)
  have Fw31 := fc30.same W31
  have KK31 : Keep h0 h31 [a1] := KK28.wr W31 (Or.inl (List.mem_of_getElem? (i := 0) rfl))
  have N31 := Fr.snoc X31 N28 pr12
  have fc32 := (((((Fw16.other W19 (Or.inr (slot_ne (Or.inr (wd235 hw)) (Or.inr (wd237 hw)) (by decide) (t := (.object s39)) (t' := (.object s39)) (by decide) (by decide)))).other W22 (Or.inr (slot_ne (Or.inr (wd235 hw)) (Or.inr (wd239 hw)) (by decide) (t := (.object s39)) (t' := (.object s26)) (by decide) (by decide)))).other W25 (Or.inr (slot_ne (Or.inr (wd235 hw)) (Or.inr (wd241 hw)) (by decide) (t := (.object s39)) (t' := (.object s54)) (by decide) (by decide)))).other W28 (Or.inr (slot_ne (Or.inr (wd235 hw)) (Or.inr (wd243 hw)) (by decide) (t := (.object s39)) (t' := (.object s54)) (by decide) (by decide)))).other W31 (Or.inr (slot_ne (Or.inr (wd235 hw)) (Or.inr (wd245 hw)) (by decide) (t := (.object s39)) (t' := (.object s52)) (by decide) (by decide))))
  have fc33 := ((((Fw19.other W22 (Or.inr (slot_ne (Or.inr (wd237 hw)) (Or.inr (wd239 hw)) (by decide) (t := (.object s39)) (t' := (.object s26)) (by decide) (by decide)))).other W25 (Or.inr (slot_ne (Or.inr (wd237 hw)) (Or.inr (wd241 hw)) (by decide) (t := (.object s39)) (t' := (.object s54)) (by decide) (by decide)))).other W28 (Or.inr (slot_ne (Or.inr (wd237 hw)) (Or.inr (wd243 hw)) (by decide) (t := (.object s39)) (t' := (.object s54)) (by decide) (by decide)))).other W31 (Or.inr (slot_ne (Or.inr (wd237 hw)) (Or.inr (wd245 hw)) (by decide) (t := (.object s39)) (t' := (.object s52)) (by decide) (by decide))))
  have fc34 := (((Fw22.other W25 (Or.inr (slot_ne (Or.inr (wd239 hw)) (Or.inr (wd241 hw)) (by decide) (t := (.object s26)) (t' := (.object s54)) (by decide) (by decide)))).other W28 (Or.inr (slot_ne (Or.inr (wd239 hw)) (Or.inr (wd243 hw)) (by decide) (t := (.object s26)) (t' := (.object s54)) (by decide) (by decide)))).other W31 (Or.inr (slot_ne (Or.inr (wd239 hw)) (Or.inr (wd245 hw)) (by decide) (t := (.object s26)) (t' := (.object s52)) (by decide) (by decide))))
  have fc35 := ((Fw25.other W28 (Or.inr (slot_ne (Or.inr (wd241 hw)) (Or.inr (wd243 hw)) (by decide) (t := (.object s54)) (t' := (.object s54)) (by decide) (by decide)))).other W31 (Or.inr (slot_ne (Or.inr (wd241 hw)) (Or.inr (wd245 hw)) (by decide) (t := (.object s54)) (t' := (.object s52)) (by decide) (by decide))))
  have fc36 := (Fw28.other W31 (Or.inr (slot_ne (Or.inr (wd243 hw)) (Or.inr (wd245 hw)) (by decide) (t := (.object s54)) (t' := (.object s52)) (by decide) (by decide))))
  have fc37 := ((((((u13_3.wr W16).wr W19).wr W22).wr W25).wr W28).wr W31)
  have nz38 := nl pr17.lt sz_b13_0
  have fc39 := ((((((u13_4.other W16 (Or.inl (Ne.symm nz38))).other W19 (Or.inl (Ne.symm nz38))).other W22 (Or.inl (Ne.symm nz38))).other W25 (Or.inl (Ne.symm nz38))).other W28 (Or.inl (Ne.symm nz38))).other W31 (Or.inl (Ne.symm nz38)))
  have fc40 := ((((((u13_5.other W16 (Or.inl (Ne.symm nz38))).other W19 (Or.inl (Ne.symm nz38))).other W22 (Or.inl (Ne.symm nz38))).other W25 (Or.inl (Ne.symm nz38))).other W28 (Or.inl (Ne.symm nz38))).other W31 (Or.inl (Ne.symm nz38)))
  have nz41 := nl pr17.lt sz_b13_1
  have fc42 := ((((((u13_6.other W16 (Ne.symm nz41)).other W19 (Ne.symm nz41)).other W22 (Ne.symm nz41)).other W25 (Ne.symm nz41)).other W28 (Ne.symm nz41)).other W31 (Ne.symm nz41))
  have fc43 := ((((((u13_8.wr W16).wr W19).wr W22).wr W25).wr W28).wr W31)
  refine ⟨none, _, _, _, _, _, X31, e31, by decide, fun _ => rfl, fun fs hr => ?_, ?_⟩
  · refine XS.aloadN X0.here hx rfl (hb hby d19_0) rfl rfl ?_
    show SS p e below s₁ m 1 #[rv a1, rv a2, rv a3, rv w4, .val .null, .val .null, rv a5] [(.ref a1)] _
    refine st6 _ ?_
    refine XS.aload X6.here hx rfl (hb hby d19_4) rfl rfl ?_
    refine st13 _ ?_
    refine XS.astore X13.here hx rfl (hb hby d19_9) rfl rfl (l' := #[rv a1, rv a2, rv a3, rv w4, .val .null, .val .null, rv b13_0]) rfl ?_
    refine XS.aloadN X13.here hx rfl (hb hby d19_11) rfl rfl ?_
    refine XS.aloadN X13.here hx rfl (hb hby d19_12) rfl rfl ?_
    refine st16 _ ?_
    refine XS.aloadN X16.here hx rfl (hb hby d19_16) rfl rfl ?_
    refine XS.aloadN X16.here hx rfl (hb hby d19_17) rfl rfl ?_
    refine st19 _ ?_
    show SS p e below T19 m 21 #[rv a1, rv a2, rv a3, rv w4, .val .null, .val .null, rv b13_0] [] _
    refine XS.aloadN X19.here hx rfl (hb hby d19_21) rfl rfl ?_
    refine XS.aloadN X19.here hx rfl (hb hby d19_22) rfl rfl ?_
    refine st22 _ ?_
    refine XS.aloadN X22.here hx rfl (hb hby d19_26) rfl rfl ?_
    refine XS.aload X22.here hx rfl (hb hby d19_27) rfl rfl ?_
    refine st25 _ ?_
    refine XS.aloadN X25.here hx rfl (hb hby d19_32) rfl rfl ?_
    refine XS.aload X25.here hx rfl (hb hby d19_33) rfl rfl ?_
    refine st28 _ ?_
    refine XS.aloadN X28.here hx rfl (hb hby d19_38) rfl rfl ?_
    show SS p e below T28 m 39 #[rv a1, rv a2, rv a3, rv w4, .val .null, .val .null, rv b13_0] [(.ref a1)] _
    refine XS.aload X28.here hx rfl (hb hby d19_39) rfl rfl ?_
    refine st31 _ ?_
    show SS p e below T31 m 44 #[rv a1, rv a2, rv a3, rv w4, .val .null, .val .null, rv b13_0] [] _
    exact X31.returnOut hx hret (hb hby d19_44) hr
  · exact ⟨b13_0, b13_1, kx13_0, rfl, N31, KK31, sz_b13_0, sz_b13_1, u13_2, fc32, fc33, fc34, fc35, fc36, Fw31, fc37, fc39, fc40, fc42, u13_7, fc43⟩
theorem rm32_3 (l : Launch) (Z : State) (a0 : Array Value) (hw : HW a0 Z) (a1 a2 a4 a7 w10 a17 w18 a19 a20 a21 : Addr) (k22 : ClassId) (h0 : Heap) (n0 : Nat) (OL0 : Old Z n0 h0) (pr1 : Fld Z h0 a1 s27 "id" s11 (.ref a4)) (pr2 : Fld Z h0 a1 s27 "name" s11 (.ref a7)) (pr3 : Fld Z h0 a1 s27 "basis" s9 (.ref w10)) (pr4 : Fld Z h0 a1 s27 "onlyFor" s16 .null) (pr5 : Fld Z h0 a1 s27 s24 s16 .null) (pr6 : Exa Z h0 a2 s44) (pr7 : Fld Z h0 a2 s44 "size" "I" (.int (3 : Int32))) (pr8 : Fld Z h0 a2 s44 s32 s21 (.ref a17)) (pr9 : MirM Z s21 w18) (pr10 : Exa Z h0 a17 s21) (pr11 : Arv Z h0 a17 k22 (.object s37) (10 : Int32) [(.ref a19), (.ref a20), (.ref a21), .null, .null, .null, .null, .null, .null, .null] .null) (pr12 : Exa Z h0 a21 s29) (pr13 : Exa Z h0 a20 s29) (pr14 : Exa Z h0 a19 s29) :
    MF l Z mn32 prog_22_method_2_code 2 (some (.object s27)) ⟨10, 4, 14, 134⟩ #[(.ref a1), (.ref a2)] h0 (fun v h L => ∃ b3 : Addr, ∃ b23_0 : Addr, ∃ b23_1 : Addr, ∃ kx23_0 : ClassId, v = some (.ref b3) ∧ Fr n0 L ∧ Keep h0 h [] ∧ h0.size ≤ b3 ∧ h0.size ≤ b23_0 ∧ h0.size ≤ b23_1 ∧ b3 ≠ b23_0 ∧ b3 ≠ b23_1 ∧ b23_0 ≠ b23_1 ∧ Exa Z h b3 s27 ∧ Fld Z h b3 s27 "id" s11 (.ref a4) ∧ Fld Z h b3 s27 "name" s11 (.ref a7) ∧ Fld Z h b3 s27 "basis" s9 (.ref w10) ∧ Fld Z h b3 s27 "onlyFor" s16 .null ∧ Fld Z h b3 s27 s24 s16 .null ∧ Fld Z h b3 s27 "prices" s15 (.ref b23_0) ∧ Exa Z h b23_0 s51 ∧ Fld Z h b23_0 s51 s33 s21 (.ref b23_1) ∧ Fld Z h b23_0 s51 s22 "Z" (.int (0 : Int32)) ∧ Arv Z h b23_1 kx23_0 (.object s37) (3 : Int32) [(.ref a19), (.ref a20), (.ref a21)] .null ∧ Ovr Z kx23_0 s37 ∧ Exa Z h b23_1 s21) := by
  refine own_start (plainFor_of_name pn_10) (fun m => (ef_32_16 m a1 a2)) ?_
  intro p e s m below meth c s₁ hZ hx hby hml hown hnm hret X0 e0
  have N0 := Fr.nil n0
  obtain ⟨T3, h3, X3, e3, E3, A3, D3, -, st3⟩ := newO X0 hx hZ hown (wd251 hw) (wd142 hw) (wd143 hw) e0 (g := (mkF m 0 #[rv a1, rv a2] [])) rfl (hb hby d32_0) (by decide) (by decide)
  obtain ⟨b3, g3⟩ : ∃ z, z = h0.size := ⟨_, rfl⟩
  rw [← g3] at A3 D3 st3
  have g_b3 : n0 ≤ b3 := (Nat.le_trans (Nat.le_trans (Nat.le_of_eq OL0.1.symm) OL0.2.1) (Nat.le_of_eq g3.symm))
  have sz_b3 : h0.size ≤ b3 := (Nat.le_trans (Keep.refl h0 []).1 (Nat.le_of_eq g3.symm))
  have KK3 : Keep h0 h3 [] := (Keep.refl h0 []).ext E3
  have OL3 := OL0.ext E3
  have F_id_b3 : Fld Z h3 b3 s27 "id" s11 .null := D3 (Or.inr (wd235 hw)) (ty := (.object s39)) (by decide)
  have F_name_b3 : Fld Z h3 b3 s27 "name" s11 .null := D3 (Or.inr (wd237 hw)) (ty := (.object s39)) (by decide)
  have F_basis_b3 : Fld Z h3 b3 s27 "basis" s9 .null := D3 (Or.inr (wd239 hw)) (ty := (.object s26)) (by decide)
  have F_onlyFor_b3 : Fld Z h3 b3 s27 "onlyFor" s16 .null := D3 (Or.inr (wd241 hw)) (ty := (.object s54)) (by decide)
  have F_chargeFor_b3 : Fld Z h3 b3 s27 s24 s16 .null := D3 (Or.inr (wd243 hw)) (ty := (.object s54)) (by decide)
  have F_prices_b3 : Fld Z h3 b3 s27 "prices" s15 .null := D3 (Or.inr (wd245 hw)) (ty := (.object s52)) (by decide)
  have fc5 := (pr1.ext E3)
  obtain ⟨T6, X6, e6, st6⟩ := gF X3 hx hZ hown (wd234 hw) Via.refl e3 fc5 5 #[rv a1, rv a2] [(.ref b3), (.ref b3)] (hb hby d32_5)
  have fc8 := (pr2.ext E3)
  obtain ⟨T9, X9, e9, st9⟩ := gF X6 hx hZ hown (wd236 hw) Via.refl e6 fc8 9 #[rv a1, rv a2] [(.ref a4), (.ref b3), (.ref b3)] (hb hby d32_9)
  have fc11 := (pr3.ext E3)
  obtain ⟨T12, X12, e12, st12⟩ := gF X9 hx hZ hown (wd238 hw) Via.refl e9 fc11 13 #[rv a1, rv a2] [(.ref a7), (.ref a4), (.ref b3), (.ref b3)] (hb hby d32_13)
  have fc13 := (pr4.ext E3)
  obtain ⟨T14, X14, e14, st14⟩ := gF X12 hx hZ hown (wd240 hw) Via.refl e12 fc13 17 #[rv a1, rv a2] [(.ref w10), (.ref a7), (.ref a4), (.ref b3), (.ref b3)] (hb hby d32_17)
  have fc15 := (pr5.ext E3)
  obtain ⟨T16, X16, e16, st16⟩ := gF X14 hx hZ hown (wd242 hw) Via.refl e14 fc15 21 #[rv a1, rv a2] [.null, (.ref w10), (.ref a7), (.ref a4), (.ref b3), (.ref b3)] (hb hby d32_21)
  have fc24 := (pr6.ext E3)
  have fc25 := (pr7.ext E3)
  have fc26 := (pr8.ext E3)
  have fc27 := (pr10.ext E3)
  have fc28 := (pr11.ext E3)
  have fc29 := (pr12.ext E3)
  have fc30 := (pr13.ext E3)
  have fc31 := (pr14.ext E3)
  obtain ⟨_, T23, L23, X23, hQ23, st23⟩ := own_cN X16 hx hZ hown hml (cw17 hw) (rm19_3 l Z a0 hw b3 a4 a7 w10 a2 a17 w18 a19 a20 a21 k22 h3 n0 OL3 fc24 fc25 fc26 pr9 fc27 fc28 fc29 fc30 fc31 A3 F_id_b3 g_b3 F_name_b3 F_basis_b3 F_onlyFor_b3 F_chargeFor_b3 F_prices_b3) e16 b3 25 #[rv a1, rv a2] [(.ref a4), (.ref a7), (.ref w10), .null, .null, (.ref a2)] [(.ref b3)] 1 rfl (hb hby d32_25) (by decide)
  obtain ⟨b23_0, b23_1, kx23_0, rfl, Nq23, K23, u23_0, u23_1, u23_2, u23_3, u23_4, u23_5, u23_6, u23_7, u23_8, u23_9, u23_10, u23_11, u23_12, u23_13, u23_14⟩ := hQ23
  have KK23 : Keep h0 T23.heap [] := KK3.trans K23 (allS (Or.inr sz_b3) all0)
  have sz_b23_0 : h0.size ≤ b23_0 := Nat.le_trans KK3.1 u23_0
  have sz_b23_1 : h0.size ≤ b23_1 := Nat.le_trans KK3.1 u23_1
  have N23 := Fr.app N0 Nq23
  have nz32 := nl F_prices_b3.lt u23_0
  have nz33 := nl F_prices_b3.lt u23_1
  have fc34 := (A3.keep K23)
  refine ⟨some (.ref b3), _, _, _, _, _, X23, rfl, by decide, nofun, fun fs hr => ?_, ?_⟩
  · refine st3 _ ?_
    show SS p e below T3 m 3 #[rv a1, rv a2] [(.ref b3)] _
    refine XS.dup X3.here hx rfl (hb hby d32_3) rfl rfl ?_
    refine XS.aloadN X3.here hx rfl (hb hby d32_4) rfl rfl ?_
    refine st6 _ ?_
    refine XS.aloadN X6.here hx rfl (hb hby d32_8) rfl rfl ?_
    refine st9 _ ?_
    refine XS.aloadN X9.here hx rfl (hb hby d32_12) rfl rfl ?_
    refine st12 _ ?_
    refine XS.aloadN X12.here hx rfl (hb hby d32_16) rfl rfl ?_
    refine st14 _ ?_
    refine XS.aloadN X14.here hx rfl (hb hby d32_20) rfl rfl ?_
    show SS p e below T14 m 21 #[rv a1, rv a2] [(.ref a1), .null, (.ref w10), (.ref a7), (.ref a4), (.ref b3), (.ref b3)] _
    refine st16 _ ?_
    refine XS.aloadN X16.here hx rfl (hb hby d32_24) rfl rfl ?_
    refine st23 _ ?_
    show SS p e below T23 m 28 #[rv a1, rv a2] [(.ref b3)] _
    exact own_retR X23 hx hret rfl rfl rfl (hb hby d32_28) hr
  · exact ⟨b3, b23_0, b23_1, kx23_0, rfl, N23, KK23, sz_b3, sz_b23_0, sz_b23_1, nz32, nz33, u23_2, fc34, u23_3, u23_4, u23_5, u23_6, u23_7, u23_8, u23_9, u23_10, u23_11, u23_12, u23_13, u23_14⟩
theorem ef_15_57 (m : MethodId) (x0 : Addr) (x1 : Addr) (x2 : Addr) : entryFrame m #[(.ref x0), (.ref x1), (.ref x2), (.int (3 : Int32))] 4 = mkF m 0 #[.val (.ref x0), .val (.ref x1), .val (.ref x2), .val (.int (3 : Int32))] [] := by first | (simp [entryFrame, mkF, argsToLocals, Value.category]; done) | rfl
theorem rm15_3 (l : Launch) (Z : State) (a0 : Array Value) (hw : HW a0 Z) (a1 a2 a3 a4 a5 a6 : Addr) (k7 : ClassId) (h0 : Heap) (n0 : Nat) (OL0 : Old Z n0 h0) (pr1 : Arv Z h0 a3 k7 (.object s37) (10 : Int32) [(.ref a4), (.ref a5), (.ref a6), .null, .null, .null, .null, .null, .null, .null] .null) (pr2 : n0 ≤ a3) (pr3 : Ovr Z k7 s37) (pr4 : Exa Z h0 a2 s29) (pr5 : Exa Z h0 a1 s44) (pr6 : Fld Z h0 a1 s44 "size" "I" (.int (3 : Int32))) (pr7 : a1 ≠ a3) (pr8 : n0 ≤ a1) (pr9 : Fld Z h0 a1 s43 s57 "I" (.int (4 : Int32))) (pr10 : Fld Z h0 a1 s44 s32 s21 (.ref a3)) (pr11 : a3 ≠ a1) :
    MF l Z mn15 jdk_38_method_24_code 4 none ⟨0, 0, 0, 0⟩ #[(.ref a1), (.ref a2), (.ref a3), (.int (3 : Int32))] h0 (fun v h L => v = none ∧ Fr n0 L ∧ Keep h0 h [a3, a1] ∧ Arv Z h a3 k7 (.object s37) (10 : Int32) [(.ref a4), (.ref a5), (.ref a6), (.ref a2), .null, .null, .null, .null, .null, .null] .null ∧ Fld Z h a1 s44 "size" "I" (.int (4 : Int32)) ∧ Fld Z h a1 s43 s57 "I" (.int (4 : Int32)) ∧ Fld Z h a1 s44 s32 s21 (.ref a3)) := by
  refine own_start (plainFor_of_name pn_6) (fun m => (ef_15_57 m a1 a2 a3)) ?_
  intro p e s m below meth c s₁ hZ hx hby hml hown hnm hret X0 e0
  have N0 := Fr.nil n0
  obtain ⟨cl8, Ar8, -, Sz8, Nn8, -, -⟩ := id pr1
  obtain ⟨cl9, Ar9, q9, S9, M9, Hs9, G9⟩ := id pr1
  have hin9 : ¬ ((3 : Int32) < 0 ∨ cl9.slots.size ≤ ((3 : Int32)).toNatClampNeg) := inb_of S9 ⟨by decide, by decide⟩
  obtain ⟨T10, h10, X10, e10, W10, st10⟩ := stR X0 hx hZ e0 Ar9 (j := (3 : Int32)) hin9 rfl (Sto.ofV Ar9 q9 pr3 (Ins.of_exa pr4 (wd140 hw))) (g := (mkF m 14 #[rv a1, rv a2, rv a3, iv (3 : Int32)] [(.ref a2), (.int (3 : Int32)), (.ref a3)])) rfl rfl (hb hby d15_14)
  have V10 : Arv Z h10 a3 k7 (.object s37) (10 : Int32) [(.ref a4), (.ref a5), (.ref a6), (.ref a2), .null, .null, .null, .null, .null, .null] .null := Arv.set Ar9 q9 S9 M9 Hs9 G9 rfl W10 3 rfl (Nat.le_of_ble_eq_true rfl)
  have KK10 : Keep h0 h10 [a3, a1] := (Keep.refl h0 [a3, a1]).wr W10 (Or.inl (List.mem_of_getElem? (i := 0) rfl))
  have N10 := Fr.snoc X10 N0 pr2
  have fc11 := (pr5.wr W10)
  have fc12 := (pr6.other W10 (Or.inl pr7))
  obtain ⟨T13, h13, X13, e13, W13, st13⟩ := putF X10 hx hZ hown (host := "") (Or.inl (wd117 hw)) Via.refl e10 fc12 fc11 (Or.inl (wd118 hw)) (wd84 hw) (ty := .int) (by decide) rfl rfl (g := (mkF m 19 #[rv a1, rv a2, rv a3, iv (3 : Int32)] [(.int (4 : Int32)), (.ref a1)])) rfl rfl (hb hby d15_19)
  have Fw13 := fc12.same W13
  have KK13 : Keep h0 h13 [a3, a1] := KK10.wr W13 (Or.inl (List.mem_of_getElem? (i := 1) rfl))
  have N13 := Fr.snoc X13 N10 pr8
  have fc14 := ((pr9.other W10 (Or.inl pr7)).other W13 (Or.inr (slot_ne (Or.inl (wd103 hw)) (Or.inl (wd118 hw)) (by decide) (t := .int) (t' := .int) (by decide) (by decide))))
  have fc15 := ((pr10.other W10 (Or.inl pr7)).other W13 (Or.inr (slot_ne (Or.inl (wd106 hw)) (Or.inl (wd118 hw)) (by decide) (t := (.array (.object s37))) (t' := .int) (by decide) (by decide))))
  have fc16 := (V10.other W13 pr11)
  refine ⟨none, _, _, _, _, _, X13, e13, by decide, fun _ => rfl, fun fs hr => ?_, ?_⟩
  · refine XS.iloadN X0.here hx rfl (hb hby d15_0) rfl ?_
    show SS p e below s₁ m 1 #[rv a1, rv a2, rv a3, iv (3 : Int32)] [(.int (3 : Int32))] _
    refine XS.aloadN X0.here hx rfl (hb hby d15_1) rfl rfl ?_
    refine X0.arraylength hx (by rw [e0]; exact Ar8.1) (State.isArrayOf_alike hZ.alike Ar8.2.1) (g := (mkF m 2 #[rv a1, rv a2, rv a3, iv (3 : Int32)] [(.ref a3), (.int (3 : Int32))])) rfl rfl (hb hby d15_2) _ ?_
    rw [len_of Sz8 Nn8]
    refine XS.icmpYes X0.here hx rfl (pc0 := 3) (pc' := 11) rfl (hb hby d15_3) rfl (feq (by decide : ¬ ((3 : Int32) = (10 : Int32)))).2 (by decide) (by decide) ?_
    refine XS.aloadN X0.here hx rfl (hb hby d15_11) rfl rfl ?_
    refine XS.iloadN X0.here hx rfl (hb hby d15_12) rfl ?_
    refine XS.aloadN X0.here hx rfl (hb hby d15_13) rfl rfl ?_
    refine st10 _ ?_
    refine XS.aloadN X10.here hx rfl (hb hby d15_15) rfl rfl ?_
    refine XS.iloadN X10.here hx rfl (hb hby d15_16) rfl ?_
    refine XS.iconst X10.here hx rfl (hb hby d15_17) ?_
    show SS p e below T10 m 18 #[rv a1, rv a2, rv a3, iv (3 : Int32)] [(.int (1 : Int32)), (.int (3 : Int32)), (.ref a1)] _
    refine XS.iadd X10.here hx rfl (hb hby d15_18) rfl ?_
    refine st13 _ ?_
    show SS p e below T13 m 22 #[rv a1, rv a2, rv a3, iv (3 : Int32)] [] _
    exact X13.returnOut hx hret (hb hby d15_22) hr
  · exact ⟨rfl, N13, KK13, fc16, Fw13, fc14, fc15⟩
theorem rm14_3 (l : Launch) (Z : State) (a0 : Array Value) (hw : HW a0 Z) (a1 a2 a5 a10 a11 a12 : Addr) (k13 : ClassId) (h0 : Heap) (n0 : Nat) (OL0 : Old Z n0 h0) (pr1 : Fld Z h0 a1 s43 s57 "I" (.int (3 : Int32))) (pr2 : Exa Z h0 a1 s44) (pr3 : n0 ≤ a1) (pr4 : Fld Z h0 a1 s44 s32 s21 (.ref a5)) (pr5 : Fld Z h0 a1 s44 "size" "I" (.int (3 : Int32))) (pr6 : Arv Z h0 a5 k13 (.object s37) (10 : Int32) [(.ref a10), (.ref a11), (.ref a12), .null, .null, .null, .null, .null, .null, .null] .null) (pr7 : a5 ≠ a1) (pr8 : n0 ≤ a5) (pr9 : Ovr Z k13 s37) (pr10 : Exa Z h0 a2 s29) (pr11 : a1 ≠ a5) :
    MF l Z mn14 jdk_38_method_25_code 2 (some .boolean) ⟨1, 0, 0, 15⟩ #[(.ref a1), (.ref a2)] h0 (fun v h L => v = some (.int (1 : Int32)) ∧ Fr n0 L ∧ Keep h0 h [a1, a5] ∧ Fld Z h a1 s43 s57 "I" (.int (4 : Int32)) ∧ Fld Z h a1 s44 s32 s21 (.ref a5) ∧ Fld Z h a1 s44 "size" "I" (.int (4 : Int32)) ∧ Arv Z h a5 k13 (.object s37) (10 : Int32) [(.ref a10), (.ref a11), (.ref a12), (.ref a2), .null, .null, .null, .null, .null, .null] .null) := by
  refine own_start (plainFor_of_name pn_6) (fun m => (ef_14_21 m a1 a2)) ?_
  intro p e s m below meth c s₁ hZ hx hby hml hown hnm hret X0 e0
  have N0 := Fr.nil n0
  obtain ⟨T3, X3, e3, st3⟩ := gF X0 hx hZ hown (wd115 hw) (Via.of (wd116 hw)) e0 pr1 2 #[rv a1, rv a2] [(.ref a1)] (hb hby d14_2)
  obtain ⟨T4, h4, X4, e4, W4, st4⟩ := putF X3 hx hZ hown (host := "") (Or.inl (wd115 hw)) (Via.of (wd116 hw)) e3 pr1 pr2 (Or.inl (wd103 hw)) (wd84 hw) (ty := .int) (by decide) rfl rfl (g := (mkF m 7 #[rv a1, rv a2] [(.int (4 : Int32)), (.ref a1)])) rfl rfl (hb hby d14_7)
  have Fw4 := pr1.same W4
  have KK4 : Keep h0 h4 [a1, a5] := (Keep.refl h0 [a1, a5]).wr W4 (Or.inl (List.mem_of_getElem? (i := 0) rfl))
  have OL4 := OL0.wr W4 pr3
  have N4 := Fr.snoc X4 N0 pr3
  have fc6 := (pr4.other W4 (Or.inr (slot_ne (Or.inl (wd106 hw)) (Or.inl (wd103 hw)) (by decide) (t := (.array (.object s37))) (t' := .int) (by decide) (by decide))))
  obtain ⟨T7, X7, e7, st7⟩ := gF X4 hx hZ hown (wd105 hw) Via.refl e4 fc6 13 #[rv a1, rv a2] [(.ref a2), (.ref a1)] (hb hby d14_13)
  have fc8 := (pr5.other W4 (Or.inr (slot_ne (Or.inl (wd118 hw)) (Or.inl (wd103 hw)) (by decide) (t := .int) (t' := .int) (by decide) (by decide))))
  obtain ⟨T9, X9, e9, st9⟩ := gF X7 hx hZ hown (wd117 hw) Via.refl e7 fc8 17 #[rv a1, rv a2] [(.ref a5), (.ref a2), (.ref a1)] (hb hby d14_17)
  have fc15 := (pr6.other W4 pr7)
  have fc16 := (pr10.wr W4)
  have fc17 := (pr2.wr W4)
  obtain ⟨_, T14, L14, X14, hQ14, st14⟩ := own_cP X9 hx hZ hown hml (cw22 hw) (rm15_3 l Z a0 hw a1 a2 a5 a10 a11 a12 k13 h4 n0 OL4 fc15 pr8 pr9 fc16 fc17 fc8 pr11 pr3 Fw4 fc6 pr7) e9 fc17 20 #[rv a1, rv a2] [(.ref a2), (.ref a5), (.int (3 : Int32))] [] 0 rfl (hb hby d14_20) (by decide)
  obtain ⟨rfl, Nq14, K14, u14_0, u14_1, u14_2, u14_3⟩ := hQ14
  have KK14 : Keep h0 T14.heap [a1, a5] := KK4.trans K14 (allS (Or.inl (List.mem_of_getElem? (i := 1) rfl)) (allS (Or.inl (List.mem_of_getElem? (i := 0) rfl)) all0))
  have N14 := Fr.app N4 Nq14
  refine ⟨some (.int (1 : Int32)), _, _, _, _, _, X14, rfl, by decide, nofun, fun fs hr => ?_, ?_⟩
  · refine XS.aloadN X0.here hx rfl (hb hby d14_0) rfl rfl ?_
    show SS p e below s₁ m 1 #[rv a1, rv a2] [(.ref a1)] _
    refine XS.dup X0.here hx rfl (hb hby d14_1) rfl rfl ?_
    refine st3 _ ?_
    refine XS.iconst X3.here hx rfl (hb hby d14_5) ?_
    refine XS.iadd X3.here hx rfl (hb hby d14_6) rfl ?_
    refine st4 _ ?_
    refine XS.aloadN X4.here hx rfl (hb hby d14_10) rfl rfl ?_
    refine XS.aloadN X4.here hx rfl (hb hby d14_11) rfl rfl ?_
    refine XS.aloadN X4.here hx rfl (hb hby d14_12) rfl rfl ?_
    refine st7 _ ?_
    refine XS.aloadN X7.here hx rfl (hb hby d14_16) rfl rfl ?_
    show SS p e below T7 m 17 #[rv a1, rv a2] [(.ref a1), (.ref a5), (.ref a2), (.ref a1)] _
    refine st9 _ ?_
    refine st14 _ ?_
    refine XS.iconst X14.here hx rfl (hb hby d14_23) ?_
    show SS p e below T14 m 24 #[rv a1, rv a2] [(.int (1 : Int32))] _
    exact retN X14 hx (t := .boolean) hret (by simp) (hb hby d14_24) hr
  · exact ⟨rfl, N14, KK14, u14_2, u14_3, u14_1, u14_0⟩
theorem rm42_1 (l : Launch) (Z : State) (a0 : Array Value) (hw : HW a0 Z) (a1 a2 a4 a5 a6 : Addr) (k7 : ClassId) (h0 : Heap) (n0 : Nat) (OL0 : Old Z n0 h0) (pr1 : Fld Z h0 a1 s51 s33 s21 (.ref a2)) (pr2 : Arv Z h0 a2 k7 (.object s37) (3 : Int32) [(.ref a4), (.ref a5), (.ref a6)] .null) :
    MF l Z mn42 jdk_45_method_3_code 1 (some .int) ⟨0, 0, 0, 0⟩ #[(.ref a1)] h0 (QR n0 h0 (some (.int (3 : Int32)))) := by
  refine own_start (plainFor_of_name pn_11) (fun m => (ef_42_29 m a1)) ?_
  intro p e s m below meth c s₁ hZ hx hby hml hown hnm hret X0 e0
  have N0 := Fr.nil n0
  obtain ⟨T3, X3, e3, st3⟩ := gF X0 hx hZ hown (wd305 hw) Via.refl e0 pr1 1 #[rv a1] [] (hb hby d42_1)
  obtain ⟨cl8, Ar8, -, Sz8, Nn8, -, -⟩ := id pr2
  refine ⟨some (.int (3 : Int32)), _, _, _, _, _, X3, e3, by decide, nofun, fun fs hr => ?_, ?_⟩
  · refine XS.aloadN X0.here hx rfl (hb hby d42_0) rfl rfl ?_
    show SS p e below s₁ m 1 #[rv a1] [(.ref a1)] _
    refine st3 _ ?_
    refine X3.arraylength hx (by rw [e3]; exact Ar8.1) (State.isArrayOf_alike hZ.alike Ar8.2.1) (g := (mkF m 4 #[rv a1] [(.ref a2)])) rfl rfl (hb hby d42_4) _ ?_
    rw [len_of Sz8 Nn8]
    show SS p e below T3 m 5 #[rv a1] [(.int (3 : Int32))] _
    exact retI X3 hx hret (hb hby d42_5) hr
  · exact ⟨rfl, N0, rfl⟩
theorem d47_0 : DC cb47 0 (.aload_n 0) 1 := by decide +kernel
theorem d47_1 : DC cb47 1 (.getfield 7) 3 := by decide +kernel
theorem d47_4 : DC cb47 4 (.iload_n 1) 1 := by decide +kernel
theorem d47_5 : DC cb47 5 (.aaload) 1 := by decide +kernel
theorem d47_6 : DC cb47 6 (.areturn) 1 := by decide +kernel
theorem ef_47_58 (m : MethodId) (x0 : Addr) : entryFrame m #[(.ref x0), (.int (0 : Int32))] 2 = mkF m 0 #[.val (.ref x0), .val (.int (0 : Int32))] [] := by first | (simp [entryFrame, mkF, argsToLocals, Value.category]; done) | rfl
theorem rm47_0 (l : Launch) (Z : State) (a0 : Array Value) (hw : HW a0 Z) (a1 a2 a4 a5 a6 : Addr) (k7 : ClassId) (h0 : Heap) (n0 : Nat) (OL0 : Old Z n0 h0) (pr1 : Fld Z h0 a1 s51 s33 s21 (.ref a2)) (pr2 : Arv Z h0 a2 k7 (.object s37) (3 : Int32) [(.ref a4), (.ref a5), (.ref a6)] .null) :
    MF l Z mn47 jdk_45_method_4_code 2 (some (.object s37)) ⟨0, 0, 0, 0⟩ #[(.ref a1), (.int (0 : Int32))] h0 (QR n0 h0 (some (.ref a4))) := by
  refine own_start (plainFor_of_name pn_11) (fun m => (ef_47_58 m a1)) ?_
  intro p e s m below meth c s₁ hZ hx hby hml hown hnm hret X0 e0
  have N0 := Fr.nil n0
  obtain ⟨T3, X3, e3, st3⟩ := gF X0 hx hZ hown (wd305 hw) Via.refl e0 pr1 1 #[rv a1, iv (0 : Int32)] [] (hb hby d47_1)
  refine ⟨some (.ref a4), _, _, _, _, _, X3, e3, by decide, nofun, fun fs hr => ?_, ?_⟩
  · refine XS.aloadN X0.here hx rfl (hb hby d47_0) rfl rfl ?_
    show SS p e below s₁ m 1 #[rv a1, iv (0 : Int32)] [(.ref a1)] _
    refine st3 _ ?_
    refine XS.iloadN X3.here hx rfl (hb hby d47_4) rfl ?_
    refine own_laR X3 hx hZ e3 pr2 (v := (.ref a4)) (by decide) rfl rfl (hb hby d47_5) ?_
    show SS p e below T3 m 6 #[rv a1, iv (0 : Int32)] [(.ref a4)] _
    exact own_retR X3 hx hret rfl rfl rfl (hb hby d47_6) hr
  · exact ⟨rfl, N0, rfl⟩
theorem cw51 {a0 Z} (hw : HW a0 Z) : CI a0 Z s28 26 (⟨s52, "get", "(I)Ljava/lang/Object;"⟩ : MethodName) mn47 s51 1 (.code mn47 jdk_45_method_4_code 2 (some (.object s37))) :=
  ⟨wx hw 313 rfl, wx hw 314 rfl, ⟨wx hw 315 rfl, by first | rfl | simp [Cond.onTables, Cond.keepsFace, Cond.keeps, Cond.steady]⟩, wx hw 337 rfl, wx hw 338 rfl, wx hw 339 rfl, wx hw 340 rfl, wx hw 302 rfl, wx hw 341 rfl, wx hw 303 rfl, by decide, _, _, pd_29, rfl⟩
theorem ef_47_59 (m : MethodId) (x0 : Addr) : entryFrame m #[(.ref x0), (.int (1 : Int32))] 2 = mkF m 0 #[.val (.ref x0), .val (.int (1 : Int32))] [] := by first | (simp [entryFrame, mkF, argsToLocals, Value.category]; done) | rfl
theorem rm47_1 (l : Launch) (Z : State) (a0 : Array Value) (hw : HW a0 Z) (a1 a2 a4 a5 a6 : Addr) (k7 : ClassId) (h0 : Heap) (n0 : Nat) (OL0 : Old Z n0 h0) (pr1 : Fld Z h0 a1 s51 s33 s21 (.ref a2)) (pr2 : Arv Z h0 a2 k7 (.object s37) (3 : Int32) [(.ref a4), (.ref a5), (.ref a6)] .null) :
    MF l Z mn47 jdk_45_method_4_code 2 (some (.object s37)) ⟨0, 0, 0, 0⟩ #[(.ref a1), (.int (1 : Int32))] h0 (QR n0 h0 (some (.ref a5))) := by
  refine own_start (plainFor_of_name pn_11) (fun m => (ef_47_59 m a1)) ?_
  intro p e s m below meth c s₁ hZ hx hby hml hown hnm hret X0 e0
  have N0 := Fr.nil n0
  obtain ⟨T3, X3, e3, st3⟩ := gF X0 hx hZ hown (wd305 hw) Via.refl e0 pr1 1 #[rv a1, iv (1 : Int32)] [] (hb hby d47_1)
  refine ⟨some (.ref a5), _, _, _, _, _, X3, e3, by decide, nofun, fun fs hr => ?_, ?_⟩
  · refine XS.aloadN X0.here hx rfl (hb hby d47_0) rfl rfl ?_
    show SS p e below s₁ m 1 #[rv a1, iv (1 : Int32)] [(.ref a1)] _
    refine st3 _ ?_
    refine XS.iloadN X3.here hx rfl (hb hby d47_4) rfl ?_
    refine own_laR X3 hx hZ e3 pr2 (v := (.ref a5)) (by decide) rfl rfl (hb hby d47_5) ?_
    show SS p e below T3 m 6 #[rv a1, iv (1 : Int32)] [(.ref a5)] _
    exact own_retR X3 hx hret rfl rfl rfl (hb hby d47_6) hr
  · exact ⟨rfl, N0, rfl⟩
theorem d41_73 : DC cb41 73 (.aload_n 0) 1 := by decide +kernel
theorem d41_74 : DC cb41 74 (.iconst 2) 1 := by decide +kernel
theorem d41_75 : DC cb41 75 (.invokeinterface 26 2) 5 := by decide +kernel
theorem ef_47_60 (m : MethodId) (x0 : Addr) : entryFrame m #[(.ref x0), (.int (2 : Int32))] 2 = mkF m 0 #[.val (.ref x0), .val (.int (2 : Int32))] [] := by first | (simp [entryFrame, mkF, argsToLocals, Value.category]; done) | rfl
theorem rm47_2 (l : Launch) (Z : State) (a0 : Array Value) (hw : HW a0 Z) (a1 a2 a4 a5 a6 : Addr) (k7 : ClassId) (h0 : Heap) (n0 : Nat) (OL0 : Old Z n0 h0) (pr1 : Fld Z h0 a1 s51 s33 s21 (.ref a2)) (pr2 : Arv Z h0 a2 k7 (.object s37) (3 : Int32) [(.ref a4), (.ref a5), (.ref a6)] .null) :
    MF l Z mn47 jdk_45_method_4_code 2 (some (.object s37)) ⟨0, 0, 0, 0⟩ #[(.ref a1), (.int (2 : Int32))] h0 (QR n0 h0 (some (.ref a6))) := by
  refine own_start (plainFor_of_name pn_11) (fun m => (ef_47_60 m a1)) ?_
  intro p e s m below meth c s₁ hZ hx hby hml hown hnm hret X0 e0
  have N0 := Fr.nil n0
  obtain ⟨T3, X3, e3, st3⟩ := gF X0 hx hZ hown (wd305 hw) Via.refl e0 pr1 1 #[rv a1, iv (2 : Int32)] [] (hb hby d47_1)
  refine ⟨some (.ref a6), _, _, _, _, _, X3, e3, by decide, nofun, fun fs hr => ?_, ?_⟩
  · refine XS.aloadN X0.here hx rfl (hb hby d47_0) rfl rfl ?_
    show SS p e below s₁ m 1 #[rv a1, iv (2 : Int32)] [(.ref a1)] _
    refine st3 _ ?_
    refine XS.iloadN X3.here hx rfl (hb hby d47_4) rfl ?_
    refine own_laR X3 hx hZ e3 pr2 (v := (.ref a6)) (by decide) rfl rfl (hb hby d47_5) ?_
    show SS p e below T3 m 6 #[rv a1, iv (2 : Int32)] [(.ref a6)] _
    exact own_retR X3 hx hret rfl rfl rfl (hb hby d47_6) hr
  · exact ⟨rfl, N0, rfl⟩
theorem d41_80 : DC cb41 80 (.iload_n 1) 1 := by decide +kernel
theorem d41_81 : DC cb41 81 (.iconst 2) 1 := by decide +kernel
theorem d41_82 : DC cb41 82 (.aload_n 2) 1 := by decide +kernel
theorem d41_83 : DC cb41 83 (.aload_n 3) 1 := by decide +kernel
theorem d41_84 : DC cb41 84 (.invokestatic 10) 3 := by decide +kernel
theorem d41_87 : DC cb41 87 (.if_acmp .eq 5) 3 := by decide +kernel
theorem rm41_3 (l : Launch) (Z : State) (a0 : Array Value) (hw : HW a0 Z) (a1 : Addr) (p2 : Int32) (a3 a4 a5 a6 a7 a8 : Addr) (k9 : ClassId) (h0 : Heap) (n0 : Nat) (OL0 : Old Z n0 h0) (pr1 : (p2 &&& (3 : Int32)) = (3 : Int32)) (pr2 : Fld Z h0 a1 s51 s33 s21 (.ref a5)) (pr3 : Arv Z h0 a5 k9 (.object s37) (3 : Int32) [(.ref a6), (.ref a7), (.ref a8)] .null) (pr4 : Exa Z h0 a1 s51) (pr5 : (if (((p2.toUInt32 >>> ((2 : Int32) &&& 31).toUInt32).toInt32) &&& (1 : Int32)) = (0 : Int32) then a3 else a4) = a6) (pr6 : (if (((p2.toUInt32 >>> ((3 : Int32) &&& 31).toUInt32).toInt32) &&& (1 : Int32)) = (0 : Int32) then a3 else a4) = a7) (pr7 : (if (((p2.toUInt32 >>> ((4 : Int32) &&& 31).toUInt32).toInt32) &&& (1 : Int32)) = (0 : Int32) then a3 else a4) = a8) :
    MF l Z mn41 method_4_code 5 (some .boolean) ⟨1, 0, 0, 16⟩ #[(.ref a1), (.int p2), (.ref a3), (.ref a4)] h0 (QR n0 h0 (some (.int (1 : Int32)))) := by
  refine own_start (plainFor_of_name pn_7) (fun m => (ef_41_30 m a1 p2 a3 a4)) ?_
  intro p e s m below meth c s₁ hZ hx hby hml hown hnm hret X0 e0
  have N0 := Fr.nil n0
  obtain ⟨_, T10, L10, X10, hQ10, st10⟩ := own_cI X0 hx hZ hown hml (cw31 hw) (rm42_1 l Z a0 hw a1 a5 a6 a7 a8 k9 h0 n0 OL0 pr2 pr3) e0 pr4 6 #[rv a1, iv p2, rv a3, rv a4, iv (3 : Int32)] [] [] 0 rfl (hb hby d41_6) (by decide)
  obtain ⟨rfl, Nq10, ec10⟩ := hQ10
  have N10 := Fr.app N0 Nq10
  obtain ⟨_, T11, L11, X11, hQ11, st11⟩ := own_cI X10 hx hZ hown hml (cw51 hw) (rm47_0 l Z a0 hw a1 a5 a6 a7 a8 k9 h0 n0 OL0 pr2 pr3) ec10 pr4 25 #[rv a1, iv p2, rv a3, rv a4, iv (3 : Int32)] [(.int (0 : Int32))] [] 0 rfl (hb hby d41_25) (by decide)
  obtain ⟨rfl, Nq11, ec11⟩ := hQ11
  have N11 := Fr.app N10 Nq11
  obtain ⟨_, T12, L12, X12, hQ12, st12⟩ := own_cS X11 hx hZ hown hml (cw33 hw) (mg_pick0 l Z a0 hw p2 a3 a4 a6 h0 n0 OL0 pr5) ec11 34 #[rv a1, iv p2, rv a3, rv a4, iv (3 : Int32)] [(.int p2), (.int (0 : Int32)), (.ref a3), (.ref a4)] [(.ref a6)] 1 rfl (hb hby d41_34) (by decide)
  obtain ⟨rfl, Nq12, ec12⟩ := hQ12
  have N12 := Fr.app N11 Nq12
  obtain ⟨_, T13, L13, X13, hQ13, st13⟩ := own_cI X12 hx hZ hown hml (cw51 hw) (rm47_1 l Z a0 hw a1 a5 a6 a7 a8 k9 h0 n0 OL0 pr2 pr3) ec12 pr4 50 #[rv a1, iv p2, rv a3, rv a4, iv (3 : Int32)] [(.int (1 : Int32))] [] 0 rfl (hb hby d41_50) (by decide)
  obtain ⟨rfl, Nq13, ec13⟩ := hQ13
  have N13 := Fr.app N12 Nq13
  obtain ⟨_, T14, L14, X14, hQ14, st14⟩ := own_cS X13 hx hZ hown hml (cw33 hw) (mg_pick1 l Z a0 hw p2 a3 a4 a7 h0 n0 OL0 pr6) ec13 59 #[rv a1, iv p2, rv a3, rv a4, iv (3 : Int32)] [(.int p2), (.int (1 : Int32)), (.ref a3), (.ref a4)] [(.ref a7)] 1 rfl (hb hby d41_59) (by decide)
  obtain ⟨rfl, Nq14, ec14⟩ := hQ14
  have N14 := Fr.app N13 Nq14
  obtain ⟨_, T15, L15, X15, hQ15, st15⟩ := own_cI X14 hx hZ hown hml (cw51 hw) (rm47_2 l Z a0 hw a1 a5 a6 a7 a8 k9 h0 n0 OL0 pr2 pr3) ec14 pr4 75 #[rv a1, iv p2, rv a3, rv a4, iv (3 : Int32)] [(.int (2 : Int32))] [] 0 rfl (hb hby d41_75) (by decide)
  obtain ⟨rfl, Nq15, ec15⟩ := hQ15
  have N15 := Fr.app N14 Nq15
  obtain ⟨_, T16, L16, X16, hQ16, st16⟩ := own_cS X15 hx hZ hown hml (cw33 hw) (mg_pick2 l Z a0 hw p2 a3 a4 a8 h0 n0 OL0 pr7) ec15 84 #[rv a1, iv p2, rv a3, rv a4, iv (3 : Int32)] [(.int p2), (.int (2 : Int32)), (.ref a3), (.ref a4)] [(.ref a8)] 1 rfl (hb hby d41_84) (by decide)
  obtain ⟨rfl, Nq16, ec16⟩ := hQ16
  have N16 := Fr.app N15 Nq16
  refine ⟨some (.int (1 : Int32)), _, _, _, _, _, X16, ec16, by decide, nofun, fun fs hr => ?_, ?_⟩
  · refine XS.iloadN X0.here hx rfl (hb hby d41_0) rfl ?_
    show SS p e below s₁ m 1 #[rv a1, iv p2, rv a3, rv a4, uu] [(.int p2)] _
    refine XS.iconst X0.here hx rfl (hb hby d41_1) ?_
    refine XS.iand X0.here hx rfl (hb hby d41_2) rfl ?_
    show SS p e below s₁ m 3 #[rv a1, iv p2, rv a3, rv a4, uu] [(.int (p2 &&& (3 : Int32)))] _
    rw [pr1]
    refine XS.istore X0.here hx rfl (hb hby d41_3) rfl (l' := #[rv a1, iv p2, rv a3, rv a4, iv (3 : Int32)]) rfl ?_
    refine XS.aloadN X0.here hx rfl (hb hby d41_5) rfl rfl ?_
    refine st10 _ ?_
    refine XS.iload X10.here hx rfl (hb hby d41_11) rfl ?_
    refine XS.icmpYes X10.here hx rfl (pc0 := 13) (pc' := 18) rfl (hb hby d41_13) rfl (teq (rfl : (3 : Int32) = (3 : Int32))).1 (by decide) (by decide) ?_
    refine XS.iload X10.here hx rfl (hb hby d41_18) rfl ?_
    refine XS.ifNo X10.here hx rfl (hb hby d41_20) rfl ((if0 _ _).trans (tlt (by decide : (0 : Int32) < (3 : Int32))).2.2.2) ?_
    refine XS.aloadN X10.here hx rfl (hb hby d41_23) rfl rfl ?_
    show SS p e below T10 m 24 #[rv a1, iv p2, rv a3, rv a4, iv (3 : Int32)] [(.ref a1)] _
    refine XS.iconst X10.here hx rfl (hb hby d41_24) ?_
    refine st11 _ ?_
    refine XS.iloadN X11.here hx rfl (hb hby d41_30) rfl ?_
    refine XS.iconst X11.here hx rfl (hb hby d41_31) ?_
    refine XS.aloadN X11.here hx rfl (hb hby d41_32) rfl rfl ?_
    refine XS.aloadN X11.here hx rfl (hb hby d41_33) rfl rfl ?_
    refine st12 _ ?_
    refine Jvm.RoadKit.acmp (g := (mkF m 37 #[rv a1, iv p2, rv a3, rv a4, iv (3 : Int32)] [(.ref a6), (.ref a6)])) X12 hx rfl rfl rfl (pc0 := 37) (pc' := 42) (same := true) rfl (hb hby d41_37) rfl (decide_eq_true rfl) (by decide) (by decide) ?_
    refine XS.iload X12.here hx rfl (hb hby d41_42) rfl ?_
    refine XS.iconst X12.here hx rfl (hb hby d41_44) ?_
    show SS p e below T12 m 45 #[rv a1, iv p2, rv a3, rv a4, iv (3 : Int32)] [(.int (1 : Int32)), (.int (3 : Int32))] _
    refine XS.icmpNo X12.here hx rfl (hb hby d41_45) rfl (tlt (by decide : (1 : Int32) < (3 : Int32))).2.2.2 ?_
    refine XS.aloadN X12.here hx rfl (hb hby d41_48) rfl rfl ?_
    refine XS.iconst X12.here hx rfl (hb hby d41_49) ?_
    refine st13 _ ?_
    refine XS.iloadN X13.here hx rfl (hb hby d41_55) rfl ?_
    refine XS.iconst X13.here hx rfl (hb hby d41_56) ?_
    refine XS.aloadN X13.here hx rfl (hb hby d41_57) rfl rfl ?_
    refine XS.aloadN X13.here hx rfl (hb hby d41_58) rfl rfl ?_
    refine st14 _ ?_
    refine Jvm.RoadKit.acmp (g := (mkF m 62 #[rv a1, iv p2, rv a3, rv a4, iv (3 : Int32)] [(.ref a7), (.ref a7)])) X14 hx rfl rfl rfl (pc0 := 62) (pc' := 67) (same := true) rfl (hb hby d41_62) rfl (decide_eq_true rfl) (by decide) (by decide) ?_
    show SS p e below T14 m 67 #[rv a1, iv p2, rv a3, rv a4, iv (3 : Int32)] [] _
    refine XS.iload X14.here hx rfl (hb hby d41_67) rfl ?_
    refine XS.iconst X14.here hx rfl (hb hby d41_69) ?_
    refine XS.icmpNo X14.here hx rfl (hb hby d41_70) rfl (tlt (by decide : (2 : Int32) < (3 : Int32))).2.2.2 ?_
    refine XS.aloadN X14.here hx rfl (hb hby d41_73) rfl rfl ?_
    refine XS.iconst X14.here hx rfl (hb hby d41_74) ?_
    refine st15 _ ?_
    refine XS.iloadN X15.here hx rfl (hb hby d41_80) rfl ?_
    refine XS.iconst X15.here hx rfl (hb hby d41_81) ?_
    refine XS.aloadN X15.here hx rfl (hb hby d41_82) rfl rfl ?_
    refine XS.aloadN X15.here hx rfl (hb hby d41_83) rfl rfl ?_
    show SS p e below T15 m 84 #[rv a1, iv p2, rv a3, rv a4, iv (3 : Int32)] [(.ref a4), (.ref a3), (.int (2 : Int32)), (.int p2), (.ref a8)] _
    refine st16 _ ?_
    refine Jvm.RoadKit.acmp (g := (mkF m 87 #[rv a1, iv p2, rv a3, rv a4, iv (3 : Int32)] [(.ref a8), (.ref a8)])) X16 hx rfl rfl rfl (pc0 := 87) (pc' := 92) (same := true) rfl (hb hby d41_87) rfl (decide_eq_true rfl) (by decide) (by decide) ?_
    refine XS.iconst X16.here hx rfl (hb hby d41_92) ?_
    show SS p e below T16 m 93 #[rv a1, iv p2, rv a3, rv a4, iv (3 : Int32)] [(.int (1 : Int32))] _
    exact retN X16 hx (t := .boolean) hret (by simp) (hb hby d41_93) hr
  · exact ⟨rfl, N16, rfl⟩
theorem ef_0 (m : MethodId) (x0 : Int32) (x1 : Int32) (x2 : Int32) (x3 : Int32) (x4 : Int32) : entryFrame m #[(.int x0), (.int x1), (.int x2), (.int x3), (.int x4)] maxLocals = mkF m 0 #[.val (.int x0), .val (.int x1), .val (.int x2), .val (.int x3), .val (.int x4), .unset, .unset, .unset, .unset, .unset, .unset, .unset, .unset, .unset, .unset] [] := by first | (simp [entryFrame, mkF, argsToLocals, Value.category, maxLocals]; done) | rfl
set_option maxRecDepth 65536 in
set_option maxHeartbeats 400000000 in
theorem rm0 (l : Launch) (Z : State) (a0 : Array Value) (hw : HW a0 Z) (ws : List Jvm.Cond) (p1 : Int32) (p2 : Int32) (p3 : Int32) (p4 : Int32) (p5 : Int32) (y1 : Int32) (y2 : Int32) (y3 : Int32) (y4 : Int32) (y5 : Int32) (n_COMPACT_STRINGS : Int32) (y6 : Int32) (y7 : Int32) (y8 : Int32) (y9 : Int32) (y10 : Int32) (w_DAYS : Addr) (w_ENERGY : Addr) (w_ON_PEAK_ENERGY : Addr) (w_OFF_PEAK_ENERGY : Addr) (w_BILLING_DEMAND_DAYS : Addr) (w_METERED_DEMAND_DAYS : Addr) (w_FIXTURE_DAYS : Addr) (w_HIGHEST_HOUR_ENERGY : Addr) (w_GAS_INDEXED_ENERGY : Addr) (w_POOL_PRICED_ENERGY : Addr) (w_ISO_COSTS : Addr) (w_DISTRIBUTION_ACCESS_CHARGES : Addr) (y11 : Int32) (y12 : Int32) (v1 : Addr) (w_DEFAULTCAPACITY_EMPTY_ELEMENTDATA : Addr) (w_EMPTY_LIST : Addr) (k_w_DEFAULTCAPACITY_EMPTY_ELEMENTDATA : ClassId) (w_EMPTY_LIST__elements : Addr) (k_w_EMPTY_LIST__elements : ClassId) (mir_objs : Addr) (w_EMPTY : Addr) (h0 : Heap) (n0 : Nat) (OL0 : Old Z n0 h0) (pr1 : (p1 &&& (255 : Int32)) = y1) (pr2 : (y1.toUInt32.toUInt16.toUInt32.toInt32) = y2) (pr3 : ((p1.toUInt32 >>> ((8 : Int32) &&& 31).toUInt32).toInt32) = y3) (pr4 : (y3 &&& (255 : Int32)) = y4) (pr5 : (y4.toUInt32.toUInt16.toUInt32.toInt32) = y5) (pr6 : Sta Z Z.heap s39 s1 "Z" (.int n_COMPACT_STRINGS)) (pr7 : ¬ (n_COMPACT_STRINGS = (0 : Int32))) (pr8 : ¬ ((255 : Int32) < (nar .char y2))) (pr9 : ¬ ((255 : Int32) < (nar .char y5))) (pr10 : (p2 &&& (255 : Int32)) = y6) (pr11 : (y6.toUInt32.toUInt16.toUInt32.toInt32) = y7) (pr12 : ((p2.toUInt32 >>> ((8 : Int32) &&& 31).toUInt32).toInt32) = y8) (pr13 : (y8 &&& (255 : Int32)) = y9) (pr14 : (y9.toUInt32.toUInt16.toUInt32.toInt32) = y10) (pr15 : ¬ ((255 : Int32) < (nar .char y7))) (pr16 : ¬ ((255 : Int32) < (nar .char y10))) (pr17 : Sta Z Z.heap s26 "DAYS" s9 (.ref w_DAYS)) (pr18 : Exa Z Z.heap w_DAYS s26) (pr19 : Sta Z Z.heap s26 "ENERGY" s9 (.ref w_ENERGY)) (pr20 : Exa Z Z.heap w_ENERGY s26) (pr21 : Sta Z Z.heap s26 s19 s9 (.ref w_ON_PEAK_ENERGY)) (pr22 : Exa Z Z.heap w_ON_PEAK_ENERGY s26) (pr23 : Sta Z Z.heap s26 s18 s9 (.ref w_OFF_PEAK_ENERGY)) (pr24 : Exa Z Z.heap w_OFF_PEAK_ENERGY s26) (pr25 : Sta Z Z.heap s26 s0 s9 (.ref w_BILLING_DEMAND_DAYS)) (pr26 : Exa Z Z.heap w_BILLING_DEMAND_DAYS s26) (pr27 : Sta Z Z.heap s26 s17 s9 (.ref w_METERED_DEMAND_DAYS)) (pr28 : Exa Z Z.heap w_METERED_DEMAND_DAYS s26) (pr29 : Sta Z Z.heap s26 s5 s9 (.ref w_FIXTURE_DAYS)) (pr30 : Exa Z Z.heap w_FIXTURE_DAYS s26) (pr31 : Sta Z Z.heap s26 s7 s9 (.ref w_HIGHEST_HOUR_ENERGY)) (pr32 : Exa Z Z.heap w_HIGHEST_HOUR_ENERGY s26) (pr33 : Sta Z Z.heap s26 s6 s9 (.ref w_GAS_INDEXED_ENERGY)) (pr34 : Exa Z Z.heap w_GAS_INDEXED_ENERGY s26) (pr35 : Sta Z Z.heap s26 s20 s9 (.ref w_POOL_PRICED_ENERGY)) (pr36 : Exa Z Z.heap w_POOL_PRICED_ENERGY s26) (pr37 : Sta Z Z.heap s26 s8 s9 (.ref w_ISO_COSTS)) (pr38 : Exa Z Z.heap w_ISO_COSTS s26) (pr39 : Sta Z Z.heap s26 s3 s9 (.ref w_DISTRIBUTION_ACCESS_CHARGES)) (pr40 : Exa Z Z.heap w_DISTRIBUTION_ACCESS_CHARGES s26) (pr41 : (p3 &&& (2147483647 : Int32)) = y11) (pr42 : (y11 % (12 : Int32)) = y12) (pr43 : ¬ (y12 < (0 : Int32))) (pr44 : y12 < (12 : Int32)) (pr45 : ([(.ref w_DAYS), (.ref w_ENERGY), (.ref w_ON_PEAK_ENERGY), (.ref w_OFF_PEAK_ENERGY), (.ref w_BILLING_DEMAND_DAYS), (.ref w_METERED_DEMAND_DAYS), (.ref w_FIXTURE_DAYS), (.ref w_HIGHEST_HOUR_ENERGY), (.ref w_GAS_INDEXED_ENERGY), (.ref w_POOL_PRICED_ENERGY), (.ref w_ISO_COSTS), (.ref w_DISTRIBUTION_ACCESS_CHARGES)] : List Value).getD (y12).toNatClampNeg .null = .ref v1) (pr46 : Sta Z Z.heap s44 s2 s21 (.ref w_DEFAULTCAPACITY_EMPTY_ELEMENTDATA)) (pr47 : Sta Z Z.heap s47 s4 s14 (.ref w_EMPTY_LIST)) (pr48 : Arv Z Z.heap w_DEFAULTCAPACITY_EMPTY_ELEMENTDATA k_w_DEFAULTCAPACITY_EMPTY_ELEMENTDATA (.object s37) (0 : Int32) [] .null) (pr49 : Fld Z Z.heap w_EMPTY_LIST s51 s33 s21 (.ref w_EMPTY_LIST__elements)) (pr50 : Arv Z Z.heap w_EMPTY_LIST__elements k_w_EMPTY_LIST__elements (.object s37) (0 : Int32) [] .null) (pr51 : Exa Z Z.heap w_EMPTY_LIST s51) (pr52 : MirM Z s21 mir_objs) (pr53 : Sta Z Z.heap s47 "EMPTY" s10 (.ref w_EMPTY)) (pr54 : Exa Z Z.heap w_EMPTY s37) :
    MetFree l x (head1 (Jvm.Cond.code x code maxLocals ret :: ws) room_1) (fun a U => a = #[(.int p1), (.int p2), (.int p3), (.int p4), (.int p5)] ∧ Z.Warmed39 U.vm ∧ U.heap = h0) (fun _ _ _ _ _ => True) (fun _ U o U' => ∃ v L, o = .returned v ∧ Q0 n0 v L ∧ FrameEnd U o U' L 56 256) := by
  refine MetFree.of_bodySF (plainFor_of_name pn_7) hisR ?_
  intro p e s m args below meth c s₁ Bd hml0 hP hK
  obtain ⟨rfl, hZ, hh⟩ := hP
  have hx := Bd.exec
  have hby := Bd.bytes
  have hml : c.maxLocals = 15 := hml0
  have hown : s.vm.findClass s28 = some m.cls := findClass_of_methodNamed Bd.named
  have hnm := (name_of_methodNamed Bd.named Bd.method).1
  have X0 : Stand p l e room_1 s m #[(.int p1), (.int p2), (.int p3), (.int p4), (.int p5)] below meth c s₁ [] 0 0 := Stand.of_body Bd
  have e0 : s₁.heap = h0 := by rw [← hh, Bd.state]; rfl
  have N0 := Fr.nil n0
  have pre0 : ∀ t, SS p e below s₁ m 0 #[iv p1, iv p2, iv p3, iv p4, iv p5, uu, uu, uu, uu, uu, uu, uu, uu, uu, uu] [] t → Steps p.tables e below (s₁.setTop (entryFrame m #[(.int p1), (.int p2), (.int p3), (.int p4), (.int p5)] maxLocals)) t := fun t k => castTop (ef_0 m p1 p2 p3 p4 p5) k
  obtain ⟨T1, h1, X1, e1, E1, A1, D1, -, st1⟩ := newO X0 hx hZ hown (wd0 hw) (wd1 hw) (wd2 hw) e0 (g := (mkF m 0 #[iv p1, iv p2, iv p3, iv p4, iv p5, uu, uu, uu, uu, uu, uu, uu, uu, uu, uu] [])) rfl (hb hby at_0) (by decide) (by decide)
  obtain ⟨b1, g1⟩ : ∃ z, z = h0.size := ⟨_, rfl⟩
  rw [← g1] at A1 D1 st1
  have g_b1 : n0 ≤ b1 := (Nat.le_trans (Nat.le_trans (Nat.le_of_eq OL0.1.symm) OL0.2.1) (Nat.le_of_eq g1.symm))
  have OL1 := OL0.ext E1
  have F_price_b1 : Fld Z h1 b1 s29 "price" s12 .null := D1 (Or.inr (wd15 hw)) (ty := (.object "java/math/BigDecimal")) (by decide)
  have F_firstDay_b1 : Fld Z h1 b1 s29 s34 s13 .null := D1 (Or.inr (wd17 hw)) (ty := (.object "java/time/LocalDate")) (by decide)
  have F_lastDay_b1 : Fld Z h1 b1 s29 "lastDay" s16 .null := D1 (Or.inr (wd19 hw)) (ty := (.object s54)) (by decide)
  have F_connection_b1 : Fld Z h1 b1 s29 s31 s16 .null := D1 (Or.inr (wd21 hw)) (ty := (.object s54)) (by decide)
  obtain ⟨_, T2, L2, X2, hQ2, st2⟩ := own_cN X1 hx hZ hown hml (cw1 hw) (rm1_0 l Z a0 hw b1 h1 n0 OL1 A1 F_price_b1 g_b1 F_firstDay_b1 F_lastDay_b1 F_connection_b1) e1 b1 8 #[iv p1, iv p2, iv p3, iv p4, iv p5, uu, uu, uu, uu, uu, uu, uu, uu, uu, uu] [.null, .null, .null, .null] [(.ref b1)] 1 rfl (hb hby at_8) (by decide)
  obtain ⟨rfl, Nq2, K2, u2_0, u2_1, u2_2, u2_3⟩ := hQ2
  have OL2 := OL1.keep K2 (allS g_b1 all0)
  have N2 := Fr.app N0 Nq2
  obtain ⟨T3, h3, X3, e3, E3, A3, D3, -, st3⟩ := newO X2 hx hZ hown (wd0 hw) (wd1 hw) (wd2 hw) rfl (g := (mkF m 13 #[iv p1, iv p2, iv p3, iv p4, iv p5, rv b1, uu, uu, uu, uu, uu, uu, uu, uu, uu] [])) rfl (hb hby at_13) (by decide) (by decide)
  obtain ⟨b3, g3⟩ : ∃ z, z = T2.heap.size := ⟨_, rfl⟩
  rw [← g3] at A3 D3 st3
  have g_b3 : n0 ≤ b3 := (Nat.le_trans (Nat.le_trans (Nat.le_of_eq OL2.1.symm) OL2.2.1) (Nat.le_of_eq g3.symm))
  have OL3 := OL2.ext E3
  have F_price_b3 : Fld Z h3 b3 s29 "price" s12 .null := D3 (Or.inr (wd15 hw)) (ty := (.object "java/math/BigDecimal")) (by decide)
  have F_firstDay_b3 : Fld Z h3 b3 s29 s34 s13 .null := D3 (Or.inr (wd17 hw)) (ty := (.object "java/time/LocalDate")) (by decide)
  have F_lastDay_b3 : Fld Z h3 b3 s29 "lastDay" s16 .null := D3 (Or.inr (wd19 hw)) (ty := (.object s54)) (by decide)
  have F_connection_b3 : Fld Z h3 b3 s29 s31 s16 .null := D3 (Or.inr (wd21 hw)) (ty := (.object s54)) (by decide)
  obtain ⟨_, T4, L4, X4, hQ4, st4⟩ := own_cN X3 hx hZ hown hml (cw1 hw) (rm1_0 l Z a0 hw b3 h3 n0 OL3 A3 F_price_b3 g_b3 F_firstDay_b3 F_lastDay_b3 F_connection_b3) e3 b3 21 #[iv p1, iv p2, iv p3, iv p4, iv p5, rv b1, uu, uu, uu, uu, uu, uu, uu, uu, uu] [.null, .null, .null, .null] [(.ref b3)] 1 rfl (hb hby at_21) (by decide)
  obtain ⟨rfl, Nq4, K4, u4_0, u4_1, u4_2, u4_3⟩ := hQ4
  have OL4 := OL3.keep K4 (allS g_b3 all0)
  have N4 := Fr.app N2 Nq4
  obtain ⟨T5, h5, X5, e5, E5, A5, D5, -, st5⟩ := newO X4 hx hZ hown (wd22 hw) (wd23 hw) (wd24 hw) rfl (g := (mkF m 26 #[iv p1, iv p2, iv p3, iv p4, iv p5, rv b1, rv b3, uu, uu, uu, uu, uu, uu, uu, uu] [])) rfl (hb hby at_26) (by decide) (by decide)
  obtain ⟨b5, g5⟩ : ∃ z, z = T4.heap.size := ⟨_, rfl⟩
  rw [← g5] at A5 D5 st5
  have g_b5 : n0 ≤ b5 := (Nat.le_trans (Nat.le_trans (Nat.le_of_eq OL4.1.symm) OL4.2.1) (Nat.le_of_eq g5.symm))
  have OL5 := OL4.ext E5
  have F_coder_b5 : Fld Z h5 b5 s39 "coder" "B" (.int (0 : Int32)) := D5 (Or.inr (wd47 hw)) (ty := .byte) (by decide)
  have F_value_b5 : Fld Z h5 b5 s39 "value" "[B" .null := D5 (Or.inr (wd49 hw)) (ty := (.array .byte)) (by decide)
  obtain ⟨T6, h6, k6, X6, e6, E6, A6, st6⟩ := newP (aty := .char) X5 hx hZ (wd25 hw) e5 (g := (mkF m 31 #[iv p1, iv p2, iv p3, iv p4, iv p5, rv b1, rv b3, uu, uu, uu, uu, uu, uu, uu, uu] [(.int (2 : Int32)), (.ref b5), (.ref b5)])) rfl (hb hby at_31) rfl (by decide) (cap := 2) (by decide) (by decide) (by decide) (by decide)
  obtain ⟨b6, g6⟩ : ∃ z, z = h5.size := ⟨_, rfl⟩
  rw [← g6] at A6 st6
  have V6 : Arv Z h6 b6 k6 .char (2 : Int32) [(.int (0 : Int32)), (.int (0 : Int32))] (.int (0 : Int32)) := (Arv.new A6 (by decide)).pad (pad_rep [] (.int (0 : Int32)) 2)
  have g_b6 : n0 ≤ b6 := (Nat.le_trans (Nat.le_trans (Nat.le_of_eq OL5.1.symm) OL5.2.1) (Nat.le_of_eq g6.symm))
  have OL6 := OL5.ext E6
  obtain ⟨cl7, Ar7, q7, S7, M7, Hs7, G7⟩ := id V6
  have hin7 : ¬ ((0 : Int32) < 0 ∨ cl7.slots.size ≤ ((0 : Int32)).toNatClampNeg) := inb_of S7 ⟨by decide, by decide⟩
  obtain ⟨T8, h8, X8, e8, W8, st8⟩ := stC X6 hx hZ e6 Ar7 (j := (0 : Int32)) hin7 (g := (mkF m 41 #[iv p1, iv p2, iv p3, iv p4, iv p5, rv b1, rv b3, uu, uu, uu, uu, uu, uu, uu, uu] [(.int y2), (.int (0 : Int32)), (.ref b6), (.ref b6), (.ref b5), (.ref b5)])) rfl rfl (hb hby at_41)
  have V8 : Arv Z h8 b6 k6 .char (2 : Int32) [(.int (nar .char y2)), (.int (0 : Int32))] (.int (0 : Int32)) := Arv.set Ar7 q7 S7 M7 Hs7 G7 (fits_nar_char _) W8 0 rfl (Nat.le_of_ble_eq_true rfl)
  have OL8 := OL6.wr W8 g_b6
  have N8 := Fr.snoc X8 N4 g_b6
  obtain ⟨cl9, Ar9, q9, S9, M9, Hs9, G9⟩ := id V8
  have hin9 : ¬ ((1 : Int32) < 0 ∨ cl9.slots.size ≤ ((1 : Int32)).toNatClampNeg) := inb_of S9 ⟨by decide, by decide⟩
  obtain ⟨T10, h10, X10, e10, W10, st10⟩ := stC X8 hx hZ e8 Ar9 (j := (1 : Int32)) hin9 (g := (mkF m 53 #[iv p1, iv p2, iv p3, iv p4, iv p5, rv b1, rv b3, uu, uu, uu, uu, uu, uu, uu, uu] [(.int y5), (.int (1 : Int32)), (.ref b6), (.ref b6), (.ref b5), (.ref b5)])) rfl rfl (hb hby at_53)
  have V10 : Arv Z h10 b6 k6 .char (2 : Int32) [(.int (nar .char y2)), (.int (nar .char y5))] (.int (0 : Int32)) := Arv.set Ar9 q9 S9 M9 Hs9 G9 (fits_nar_char _) W10 1 rfl (Nat.le_of_ble_eq_true rfl)
  have OL10 := OL8.wr W10 g_b6
  have N10 := Fr.snoc X10 N8 g_b6
  have fc12 := (((A5.ext E6).wr W8).wr W10)
  have nz13 := (nl F_value_b5.lt (Nat.le_of_eq g6.symm))
  have fc14 := (((F_coder_b5.ext E6).other W8 (Or.inl nz13)).other W10 (Or.inl nz13))
  have fc15 := (((F_value_b5.ext E6).other W8 (Or.inl nz13)).other W10 (Or.inl nz13))
  obtain ⟨_, T11, L11, X11, hQ11, st11⟩ := own_cN X10 hx hZ hown hml (cw6 hw) (rm4_0 l Z a0 hw b5 b6 (nar .char y2) (nar .char y5) k6 n_COMPACT_STRINGS h10 n0 OL10 V10 pr6 pr7 pr8 pr9 fc12 fc14 g_b5 fc15) e10 b5 54 #[iv p1, iv p2, iv p3, iv p4, iv p5, rv b1, rv b3, uu, uu, uu, uu, uu, uu, uu, uu] [(.ref b6)] [(.ref b5)] 1 rfl (hb hby at_54) (by decide)
  obtain ⟨b11_0, kx11_0, rfl, Nq11, K11, u11_0, u11_1, u11_2, u11_3⟩ := hQ11
  have OL11 := OL10.keep K11 (allS g_b5 all0)
  have N11 := Fr.app N10 Nq11
  obtain ⟨T16, h16, X16, e16, E16, A16, D16, -, st16⟩ := newO X11 hx hZ hown (wd22 hw) (wd23 hw) (wd24 hw) rfl (g := (mkF m 59 #[iv p1, iv p2, iv p3, iv p4, iv p5, rv b1, rv b3, rv b5, uu, uu, uu, uu, uu, uu, uu] [])) rfl (hb hby at_59) (by decide) (by decide)
  obtain ⟨b16, g16⟩ : ∃ z, z = T11.heap.size := ⟨_, rfl⟩
  rw [← g16] at A16 D16 st16
  have g_b16 : n0 ≤ b16 := (Nat.le_trans (Nat.le_trans (Nat.le_of_eq OL11.1.symm) OL11.2.1) (Nat.le_of_eq g16.symm))
  have OL16 := OL11.ext E16
  have F_coder_b16 : Fld Z h16 b16 s39 "coder" "B" (.int (0 : Int32)) := D16 (Or.inr (wd47 hw)) (ty := .byte) (by decide)
  have F_value_b16 : Fld Z h16 b16 s39 "value" "[B" .null := D16 (Or.inr (wd49 hw)) (ty := (.array .byte)) (by decide)
  obtain ⟨T17, h17, k17, X17, e17, E17, A17, st17⟩ := newP (aty := .char) X16 hx hZ (wd25 hw) e16 (g := (mkF m 64 #[iv p1, iv p2, iv p3, iv p4, iv p5, rv b1, rv b3, rv b5, uu, uu, uu, uu, uu, uu, uu] [(.int (2 : Int32)), (.ref b16), (.ref b16)])) rfl (hb hby at_64) rfl (by decide) (cap := 2) (by decide) (by decide) (by decide) (by decide)
  obtain ⟨b17, g17⟩ : ∃ z, z = h16.size := ⟨_, rfl⟩
  rw [← g17] at A17 st17
  have V17 : Arv Z h17 b17 k17 .char (2 : Int32) [(.int (0 : Int32)), (.int (0 : Int32))] (.int (0 : Int32)) := (Arv.new A17 (by decide)).pad (pad_rep [] (.int (0 : Int32)) 2)
  have g_b17 : n0 ≤ b17 := (Nat.le_trans (Nat.le_trans (Nat.le_of_eq OL16.1.symm) OL16.2.1) (Nat.le_of_eq g17.symm))
  have OL17 := OL16.ext E17
  obtain ⟨cl18, Ar18, q18, S18, M18, Hs18, G18⟩ := id V17
  have hin18 : ¬ ((0 : Int32) < 0 ∨ cl18.slots.size ≤ ((0 : Int32)).toNatClampNeg) := inb_of S18 ⟨by decide, by decide⟩
  obtain ⟨T19, h19, X19, e19, W19, st19⟩ := stC X17 hx hZ e17 Ar18 (j := (0 : Int32)) hin18 (g := (mkF m 74 #[iv p1, iv p2, iv p3, iv p4, iv p5, rv b1, rv b3, rv b5, uu, uu, uu, uu, uu, uu, uu] [(.int y7), (.int (0 : Int32)), (.ref b17), (.ref b17), (.ref b16), (.ref b16)])) rfl rfl (hb hby at_74)
  have V19 : Arv Z h19 b17 k17 .char (2 : Int32) [(.int (nar .char y7)), (.int (0 : Int32))] (.int (0 : Int32)) := Arv.set Ar18 q18 S18 M18 Hs18 G18 (fits_nar_char _) W19 0 rfl (Nat.le_of_ble_eq_true rfl)
  have OL19 := OL17.wr W19 g_b17
  have N19 := Fr.snoc X19 N11 g_b17
  obtain ⟨cl20, Ar20, q20, S20, M20, Hs20, G20⟩ := id V19
  have hin20 : ¬ ((1 : Int32) < 0 ∨ cl20.slots.size ≤ ((1 : Int32)).toNatClampNeg) := inb_of S20 ⟨by decide, by decide⟩
  obtain ⟨T21, h21, X21, e21, W21, st21⟩ := stC X19 hx hZ e19 Ar20 (j := (1 : Int32)) hin20 (g := (mkF m 86 #[iv p1, iv p2, iv p3, iv p4, iv p5, rv b1, rv b3, rv b5, uu, uu, uu, uu, uu, uu, uu] [(.int y10), (.int (1 : Int32)), (.ref b17), (.ref b17), (.ref b16), (.ref b16)])) rfl rfl (hb hby at_86)
  have V21 : Arv Z h21 b17 k17 .char (2 : Int32) [(.int (nar .char y7)), (.int (nar .char y10))] (.int (0 : Int32)) := Arv.set Ar20 q20 S20 M20 Hs20 G20 (fits_nar_char _) W21 1 rfl (Nat.le_of_ble_eq_true rfl)
  have OL21 := OL19.wr W21 g_b17
  have N21 := Fr.snoc X21 N19 g_b17
  have fc23 := (((A16.ext E17).wr W19).wr W21)
  have nz24 := (nl F_value_b16.lt (Nat.le_of_eq g17.symm))
  have fc25 := (((F_coder_b16.ext E17).other W19 (Or.inl nz24)).other W21 (Or.inl nz24))
  have fc26 := (((F_value_b16.ext E17).other W19 (Or.inl nz24)).other W21 (Or.inl nz24))
  obtain ⟨_, T22, L22, X22, hQ22, st22⟩ := own_cN X21 hx hZ hown hml (cw6 hw) (rm4_0 l Z a0 hw b16 b17 (nar .char y7) (nar .char y10) k17 n_COMPACT_STRINGS h21 n0 OL21 V21 pr6 pr7 pr15 pr16 fc23 fc25 g_b16 fc26) e21 b16 87 #[iv p1, iv p2, iv p3, iv p4, iv p5, rv b1, rv b3, rv b5, uu, uu, uu, uu, uu, uu, uu] [(.ref b17)] [(.ref b16)] 1 rfl (hb hby at_87) (by decide)
  obtain ⟨b22_0, kx22_0, rfl, Nq22, K22, u22_0, u22_1, u22_2, u22_3⟩ := hQ22
  have OL22 := OL21.keep K22 (allS g_b16 all0)
  have N22 := Fr.app N21 Nq22
  obtain ⟨T27, h27, k27, X27, e27, E27, A27, AE27, O27, st27⟩ := newRE (ad := "[Lcom/example/tarcal/tarcal/schedules/Basis;") X22 hx hZ hown (wd50 hw) (wd51 hw) rfl (g := (mkF m 94 #[iv p1, iv p2, iv p3, iv p4, iv p5, rv b1, rv b3, rv b5, rv b16, uu, uu, uu, uu, uu, uu] [(.int (12 : Int32))])) rfl (hb hby at_94) rfl (by decide) (cap := 12) (by decide) (by decide) (by decide) (by decide) (by decide)
  obtain ⟨b27, g27⟩ : ∃ z, z = T22.heap.size := ⟨_, rfl⟩
  rw [← g27] at A27 AE27 st27
  have V27 : Arv Z h27 b27 k27 (.object s26) (12 : Int32) [.null, .null, .null, .null, .null, .null, .null, .null, .null, .null, .null, .null] .null := (Arv.new A27 (by decide)).pad (pad_rep [] .null 12)
  have g_b27 : n0 ≤ b27 := (Nat.le_trans (Nat.le_trans (Nat.le_of_eq OL22.1.symm) OL22.2.1) (Nat.le_of_eq g27.symm))
  have OL27 := OL22.ext E27
  obtain ⟨T28, X28, e28, st28⟩ := getS2 X27 hx hZ hown (host := "") (Or.inl (wd52 hw)) Via.refl e27 (pr17.ext OL27.2) (g := (mkF m 99 #[iv p1, iv p2, iv p3, iv p4, iv p5, rv b1, rv b3, rv b5, rv b16, uu, uu, uu, uu, uu, uu] [(.int (0 : Int32)), (.ref b27), (.ref b27)])) rfl (hb hby at_99)
  obtain ⟨cl29, Ar29, q29, S29, M29, Hs29, G29⟩ := id V27
  have hin29 : ¬ ((0 : Int32) < 0 ∨ cl29.slots.size ≤ ((0 : Int32)).toNatClampNeg) := inb_of S29 ⟨by decide, by decide⟩
  obtain ⟨T30, h30, X30, e30, W30, st30⟩ := stR X28 hx hZ e28 Ar29 (j := (0 : Int32)) hin29 rfl (Sto.ofV Ar29 q29 O27 (Ins.self (pr18.ext OL27.2))) (g := (mkF m 102 #[iv p1, iv p2, iv p3, iv p4, iv p5, rv b1, rv b3, rv b5, rv b16, uu, uu, uu, uu, uu, uu] [(.ref w_DAYS), (.int (0 : Int32)), (.ref b27), (.ref b27)])) rfl rfl (hb hby at_102)
  have V30 : Arv Z h30 b27 k27 (.object s26) (12 : Int32) [(.ref w_DAYS), .null, .null, .null, .null, .null, .null, .null, .null, .null, .null, .null] .null := Arv.set Ar29 q29 S29 M29 Hs29 G29 rfl W30 0 rfl (Nat.le_of_ble_eq_true rfl)
  have OL30 := OL27.wr W30 g_b27
  have N30 := Fr.snoc X30 N22 g_b27
  obtain ⟨T31, X31, e31, st31⟩ := getS2 X30 hx hZ hown (host := "") (Or.inl (wd56 hw)) Via.refl e30 (pr19.ext OL30.2) (g := (mkF m 105 #[iv p1, iv p2, iv p3, iv p4, iv p5, rv b1, rv b3, rv b5, rv b16, uu, uu, uu, uu, uu, uu] [(.int (1 : Int32)), (.ref b27), (.ref b27)])) rfl (hb hby at_105)
  obtain ⟨cl32, Ar32, q32, S32, M32, Hs32, G32⟩ := id V30
  have hin32 : ¬ ((1 : Int32) < 0 ∨ cl32.slots.size ≤ ((1 : Int32)).toNatClampNeg) := inb_of S32 ⟨by decide, by decide⟩
  obtain ⟨T33, h33, X33, e33, W33, st33⟩ := stR X31 hx hZ e31 Ar32 (j := (1 : Int32)) hin32 rfl (Sto.ofV Ar32 q32 O27 (Ins.self (pr20.ext OL30.2))) (g := (mkF m 108 #[iv p1, iv p2, iv p3, iv p4, iv p5, rv b1, rv b3, rv b5, rv b16, uu, uu, uu, uu, uu, uu] [(.ref w_ENERGY), (.int (1 : Int32)), (.ref b27), (.ref b27)])) rfl rfl (hb hby at_108)
  have V33 : Arv Z h33 b27 k27 (.object s26) (12 : Int32) [(.ref w_DAYS), (.ref w_ENERGY), .null, .null, .null, .null, .null, .null, .null, .null, .null, .null] .null := Arv.set Ar32 q32 S32 M32 Hs32 G32 rfl W33 1 rfl (Nat.le_of_ble_eq_true rfl)
  have OL33 := OL30.wr W33 g_b27
  have N33 := Fr.snoc X33 N30 g_b27
  obtain ⟨T34, X34, e34, st34⟩ := getS2 X33 hx hZ hown (host := "") (Or.inl (wd58 hw)) Via.refl e33 (pr21.ext OL33.2) (g := (mkF m 111 #[iv p1, iv p2, iv p3, iv p4, iv p5, rv b1, rv b3, rv b5, rv b16, uu, uu, uu, uu, uu, uu] [(.int (2 : Int32)), (.ref b27), (.ref b27)])) rfl (hb hby at_111)
  obtain ⟨cl35, Ar35, q35, S35, M35, Hs35, G35⟩ := id V33
  have hin35 : ¬ ((2 : Int32) < 0 ∨ cl35.slots.size ≤ ((2 : Int32)).toNatClampNeg) := inb_of S35 ⟨by decide, by decide⟩
  obtain ⟨T36, h36, X36, e36, W36, st36⟩ := stR X34 hx hZ e34 Ar35 (j := (2 : Int32)) hin35 rfl (Sto.ofV Ar35 q35 O27 (Ins.self (pr22.ext OL33.2))) (g := (mkF m 114 #[iv p1, iv p2, iv p3, iv p4, iv p5, rv b1, rv b3, rv b5, rv b16, uu, uu, uu, uu, uu, uu] [(.ref w_ON_PEAK_ENERGY), (.int (2 : Int32)), (.ref b27), (.ref b27)])) rfl rfl (hb hby at_114)
  have V36 : Arv Z h36 b27 k27 (.object s26) (12 : Int32) [(.ref w_DAYS), (.ref w_ENERGY), (.ref w_ON_PEAK_ENERGY), .null, .null, .null, .null, .null, .null, .null, .null, .null] .null := Arv.set Ar35 q35 S35 M35 Hs35 G35 rfl W36 2 rfl (Nat.le_of_ble_eq_true rfl)
  have OL36 := OL33.wr W36 g_b27
  have N36 := Fr.snoc X36 N33 g_b27
  obtain ⟨T37, X37, e37, st37⟩ := getS2 X36 hx hZ hown (host := "") (Or.inl (wd60 hw)) Via.refl e36 (pr23.ext OL36.2) (g := (mkF m 117 #[iv p1, iv p2, iv p3, iv p4, iv p5, rv b1, rv b3, rv b5, rv b16, uu, uu, uu, uu, uu, uu] [(.int (3 : Int32)), (.ref b27), (.ref b27)])) rfl (hb hby at_117)
  obtain ⟨cl38, Ar38, q38, S38, M38, Hs38, G38⟩ := id V36
  have hin38 : ¬ ((3 : Int32) < 0 ∨ cl38.slots.size ≤ ((3 : Int32)).toNatClampNeg) := inb_of S38 ⟨by decide, by decide⟩
  obtain ⟨T39, h39, X39, e39, W39, st39⟩ := stR X37 hx hZ e37 Ar38 (j := (3 : Int32)) hin38 rfl (Sto.ofV Ar38 q38 O27 (Ins.self (pr24.ext OL36.2))) (g := (mkF m 120 #[iv p1, iv p2, iv p3, iv p4, iv p5, rv b1, rv b3, rv b5, rv b16, uu, uu, uu, uu, uu, uu] [(.ref w_OFF_PEAK_ENERGY), (.int (3 : Int32)), (.ref b27), (.ref b27)])) rfl rfl (hb hby at_120)
  have V39 : Arv Z h39 b27 k27 (.object s26) (12 : Int32) [(.ref w_DAYS), (.ref w_ENERGY), (.ref w_ON_PEAK_ENERGY), (.ref w_OFF_PEAK_ENERGY), .null, .null, .null, .null, .null, .null, .null, .null] .null := Arv.set Ar38 q38 S38 M38 Hs38 G38 rfl W39 3 rfl (Nat.le_of_ble_eq_true rfl)
  have OL39 := OL36.wr W39 g_b27
  have N39 := Fr.snoc X39 N36 g_b27
  obtain ⟨T40, X40, e40, st40⟩ := getS2 X39 hx hZ hown (host := "") (Or.inl (wd62 hw)) Via.refl e39 (pr25.ext OL39.2) (g := (mkF m 123 #[iv p1, iv p2, iv p3, iv p4, iv p5, rv b1, rv b3, rv b5, rv b16, uu, uu, uu, uu, uu, uu] [(.int (4 : Int32)), (.ref b27), (.ref b27)])) rfl (hb hby at_123)
  obtain ⟨cl41, Ar41, q41, S41, M41, Hs41, G41⟩ := id V39
  have hin41 : ¬ ((4 : Int32) < 0 ∨ cl41.slots.size ≤ ((4 : Int32)).toNatClampNeg) := inb_of S41 ⟨by decide, by decide⟩
  obtain ⟨T42, h42, X42, e42, W42, st42⟩ := stR X40 hx hZ e40 Ar41 (j := (4 : Int32)) hin41 rfl (Sto.ofV Ar41 q41 O27 (Ins.self (pr26.ext OL39.2))) (g := (mkF m 126 #[iv p1, iv p2, iv p3, iv p4, iv p5, rv b1, rv b3, rv b5, rv b16, uu, uu, uu, uu, uu, uu] [(.ref w_BILLING_DEMAND_DAYS), (.int (4 : Int32)), (.ref b27), (.ref b27)])) rfl rfl (hb hby at_126)
  have V42 : Arv Z h42 b27 k27 (.object s26) (12 : Int32) [(.ref w_DAYS), (.ref w_ENERGY), (.ref w_ON_PEAK_ENERGY), (.ref w_OFF_PEAK_ENERGY), (.ref w_BILLING_DEMAND_DAYS), .null, .null, .null, .null, .null, .null, .null] .null := Arv.set Ar41 q41 S41 M41 Hs41 G41 rfl W42 4 rfl (Nat.le_of_ble_eq_true rfl)
  have OL42 := OL39.wr W42 g_b27
  have N42 := Fr.snoc X42 N39 g_b27
  obtain ⟨T43, X43, e43, st43⟩ := getS2 X42 hx hZ hown (host := "") (Or.inl (wd64 hw)) Via.refl e42 (pr27.ext OL42.2) (g := (mkF m 129 #[iv p1, iv p2, iv p3, iv p4, iv p5, rv b1, rv b3, rv b5, rv b16, uu, uu, uu, uu, uu, uu] [(.int (5 : Int32)), (.ref b27), (.ref b27)])) rfl (hb hby at_129)
  obtain ⟨cl44, Ar44, q44, S44, M44, Hs44, G44⟩ := id V42
  have hin44 : ¬ ((5 : Int32) < 0 ∨ cl44.slots.size ≤ ((5 : Int32)).toNatClampNeg) := inb_of S44 ⟨by decide, by decide⟩
  obtain ⟨T45, h45, X45, e45, W45, st45⟩ := stR X43 hx hZ e43 Ar44 (j := (5 : Int32)) hin44 rfl (Sto.ofV Ar44 q44 O27 (Ins.self (pr28.ext OL42.2))) (g := (mkF m 132 #[iv p1, iv p2, iv p3, iv p4, iv p5, rv b1, rv b3, rv b5, rv b16, uu, uu, uu, uu, uu, uu] [(.ref w_METERED_DEMAND_DAYS), (.int (5 : Int32)), (.ref b27), (.ref b27)])) rfl rfl (hb hby at_132)
  have V45 : Arv Z h45 b27 k27 (.object s26) (12 : Int32) [(.ref w_DAYS), (.ref w_ENERGY), (.ref w_ON_PEAK_ENERGY), (.ref w_OFF_PEAK_ENERGY), (.ref w_BILLING_DEMAND_DAYS), (.ref w_METERED_DEMAND_DAYS), .null, .null, .null, .null, .null, .null] .null := Arv.set Ar44 q44 S44 M44 Hs44 G44 rfl W45 5 rfl (Nat.le_of_ble_eq_true rfl)
  have OL45 := OL42.wr W45 g_b27
  have N45 := Fr.snoc X45 N42 g_b27
  obtain ⟨T46, X46, e46, st46⟩ := getS2 X45 hx hZ hown (host := "") (Or.inl (wd66 hw)) Via.refl e45 (pr29.ext OL45.2) (g := (mkF m 136 #[iv p1, iv p2, iv p3, iv p4, iv p5, rv b1, rv b3, rv b5, rv b16, uu, uu, uu, uu, uu, uu] [(.int (6 : Int32)), (.ref b27), (.ref b27)])) rfl (hb hby at_136)
  obtain ⟨cl47, Ar47, q47, S47, M47, Hs47, G47⟩ := id V45
  have hin47 : ¬ ((6 : Int32) < 0 ∨ cl47.slots.size ≤ ((6 : Int32)).toNatClampNeg) := inb_of S47 ⟨by decide, by decide⟩
  obtain ⟨T48, h48, X48, e48, W48, st48⟩ := stR X46 hx hZ e46 Ar47 (j := (6 : Int32)) hin47 rfl (Sto.ofV Ar47 q47 O27 (Ins.self (pr30.ext OL45.2))) (g := (mkF m 139 #[iv p1, iv p2, iv p3, iv p4, iv p5, rv b1, rv b3, rv b5, rv b16, uu, uu, uu, uu, uu, uu] [(.ref w_FIXTURE_DAYS), (.int (6 : Int32)), (.ref b27), (.ref b27)])) rfl rfl (hb hby at_139)
  have V48 : Arv Z h48 b27 k27 (.object s26) (12 : Int32) [(.ref w_DAYS), (.ref w_ENERGY), (.ref w_ON_PEAK_ENERGY), (.ref w_OFF_PEAK_ENERGY), (.ref w_BILLING_DEMAND_DAYS), (.ref w_METERED_DEMAND_DAYS), (.ref w_FIXTURE_DAYS), .null, .null, .null, .null, .null] .null := Arv.set Ar47 q47 S47 M47 Hs47 G47 rfl W48 6 rfl (Nat.le_of_ble_eq_true rfl)
  have OL48 := OL45.wr W48 g_b27
  have N48 := Fr.snoc X48 N45 g_b27
  obtain ⟨T49, X49, e49, st49⟩ := getS2 X48 hx hZ hown (host := "") (Or.inl (wd68 hw)) Via.refl e48 (pr31.ext OL48.2) (g := (mkF m 143 #[iv p1, iv p2, iv p3, iv p4, iv p5, rv b1, rv b3, rv b5, rv b16, uu, uu, uu, uu, uu, uu] [(.int (7 : Int32)), (.ref b27), (.ref b27)])) rfl (hb hby at_143)
  obtain ⟨cl50, Ar50, q50, S50, M50, Hs50, G50⟩ := id V48
  have hin50 : ¬ ((7 : Int32) < 0 ∨ cl50.slots.size ≤ ((7 : Int32)).toNatClampNeg) := inb_of S50 ⟨by decide, by decide⟩
  obtain ⟨T51, h51, X51, e51, W51, st51⟩ := stR X49 hx hZ e49 Ar50 (j := (7 : Int32)) hin50 rfl (Sto.ofV Ar50 q50 O27 (Ins.self (pr32.ext OL48.2))) (g := (mkF m 146 #[iv p1, iv p2, iv p3, iv p4, iv p5, rv b1, rv b3, rv b5, rv b16, uu, uu, uu, uu, uu, uu] [(.ref w_HIGHEST_HOUR_ENERGY), (.int (7 : Int32)), (.ref b27), (.ref b27)])) rfl rfl (hb hby at_146)
  have V51 : Arv Z h51 b27 k27 (.object s26) (12 : Int32) [(.ref w_DAYS), (.ref w_ENERGY), (.ref w_ON_PEAK_ENERGY), (.ref w_OFF_PEAK_ENERGY), (.ref w_BILLING_DEMAND_DAYS), (.ref w_METERED_DEMAND_DAYS), (.ref w_FIXTURE_DAYS), (.ref w_HIGHEST_HOUR_ENERGY), .null, .null, .null, .null] .null := Arv.set Ar50 q50 S50 M50 Hs50 G50 rfl W51 7 rfl (Nat.le_of_ble_eq_true rfl)
  have OL51 := OL48.wr W51 g_b27
  have N51 := Fr.snoc X51 N48 g_b27
  obtain ⟨T52, X52, e52, st52⟩ := getS2 X51 hx hZ hown (host := "") (Or.inl (wd70 hw)) Via.refl e51 (pr33.ext OL51.2) (g := (mkF m 150 #[iv p1, iv p2, iv p3, iv p4, iv p5, rv b1, rv b3, rv b5, rv b16, uu, uu, uu, uu, uu, uu] [(.int (8 : Int32)), (.ref b27), (.ref b27)])) rfl (hb hby at_150)
  obtain ⟨cl53, Ar53, q53, S53, M53, Hs53, G53⟩ := id V51
  have hin53 : ¬ ((8 : Int32) < 0 ∨ cl53.slots.size ≤ ((8 : Int32)).toNatClampNeg) := inb_of S53 ⟨by decide, by decide⟩
  obtain ⟨T54, h54, X54, e54, W54, st54⟩ := stR X52 hx hZ e52 Ar53 (j := (8 : Int32)) hin53 rfl (Sto.ofV Ar53 q53 O27 (Ins.self (pr34.ext OL51.2))) (g := (mkF m 153 #[iv p1, iv p2, iv p3, iv p4, iv p5, rv b1, rv b3, rv b5, rv b16, uu, uu, uu, uu, uu, uu] [(.ref w_GAS_INDEXED_ENERGY), (.int (8 : Int32)), (.ref b27), (.ref b27)])) rfl rfl (hb hby at_153)
  have V54 : Arv Z h54 b27 k27 (.object s26) (12 : Int32) [(.ref w_DAYS), (.ref w_ENERGY), (.ref w_ON_PEAK_ENERGY), (.ref w_OFF_PEAK_ENERGY), (.ref w_BILLING_DEMAND_DAYS), (.ref w_METERED_DEMAND_DAYS), (.ref w_FIXTURE_DAYS), (.ref w_HIGHEST_HOUR_ENERGY), (.ref w_GAS_INDEXED_ENERGY), .null, .null, .null] .null := Arv.set Ar53 q53 S53 M53 Hs53 G53 rfl W54 8 rfl (Nat.le_of_ble_eq_true rfl)
  have OL54 := OL51.wr W54 g_b27
  have N54 := Fr.snoc X54 N51 g_b27
  obtain ⟨T55, X55, e55, st55⟩ := getS2 X54 hx hZ hown (host := "") (Or.inl (wd72 hw)) Via.refl e54 (pr35.ext OL54.2) (g := (mkF m 157 #[iv p1, iv p2, iv p3, iv p4, iv p5, rv b1, rv b3, rv b5, rv b16, uu, uu, uu, uu, uu, uu] [(.int (9 : Int32)), (.ref b27), (.ref b27)])) rfl (hb hby at_157)
  obtain ⟨cl56, Ar56, q56, S56, M56, Hs56, G56⟩ := id V54
  have hin56 : ¬ ((9 : Int32) < 0 ∨ cl56.slots.size ≤ ((9 : Int32)).toNatClampNeg) := inb_of S56 ⟨by decide, by decide⟩
  obtain ⟨T57, h57, X57, e57, W57, st57⟩ := stR X55 hx hZ e55 Ar56 (j := (9 : Int32)) hin56 rfl (Sto.ofV Ar56 q56 O27 (Ins.self (pr36.ext OL54.2))) (g := (mkF m 160 #[iv p1, iv p2, iv p3, iv p4, iv p5, rv b1, rv b3, rv b5, rv b16, uu, uu, uu, uu, uu, uu] [(.ref w_POOL_PRICED_ENERGY), (.int (9 : Int32)), (.ref b27), (.ref b27)])) rfl rfl (hb hby at_160)
  have V57 : Arv Z h57 b27 k27 (.object s26) (12 : Int32) [(.ref w_DAYS), (.ref w_ENERGY), (.ref w_ON_PEAK_ENERGY), (.ref w_OFF_PEAK_ENERGY), (.ref w_BILLING_DEMAND_DAYS), (.ref w_METERED_DEMAND_DAYS), (.ref w_FIXTURE_DAYS), (.ref w_HIGHEST_HOUR_ENERGY), (.ref w_GAS_INDEXED_ENERGY), (.ref w_POOL_PRICED_ENERGY), .null, .null] .null := Arv.set Ar56 q56 S56 M56 Hs56 G56 rfl W57 9 rfl (Nat.le_of_ble_eq_true rfl)
  have OL57 := OL54.wr W57 g_b27
  have N57 := Fr.snoc X57 N54 g_b27
  obtain ⟨T58, X58, e58, st58⟩ := getS2 X57 hx hZ hown (host := "") (Or.inl (wd74 hw)) Via.refl e57 (pr37.ext OL57.2) (g := (mkF m 164 #[iv p1, iv p2, iv p3, iv p4, iv p5, rv b1, rv b3, rv b5, rv b16, uu, uu, uu, uu, uu, uu] [(.int (10 : Int32)), (.ref b27), (.ref b27)])) rfl (hb hby at_164)
  obtain ⟨cl59, Ar59, q59, S59, M59, Hs59, G59⟩ := id V57
  have hin59 : ¬ ((10 : Int32) < 0 ∨ cl59.slots.size ≤ ((10 : Int32)).toNatClampNeg) := inb_of S59 ⟨by decide, by decide⟩
  obtain ⟨T60, h60, X60, e60, W60, st60⟩ := stR X58 hx hZ e58 Ar59 (j := (10 : Int32)) hin59 rfl (Sto.ofV Ar59 q59 O27 (Ins.self (pr38.ext OL57.2))) (g := (mkF m 167 #[iv p1, iv p2, iv p3, iv p4, iv p5, rv b1, rv b3, rv b5, rv b16, uu, uu, uu, uu, uu, uu] [(.ref w_ISO_COSTS), (.int (10 : Int32)), (.ref b27), (.ref b27)])) rfl rfl (hb hby at_167)
  have V60 : Arv Z h60 b27 k27 (.object s26) (12 : Int32) [(.ref w_DAYS), (.ref w_ENERGY), (.ref w_ON_PEAK_ENERGY), (.ref w_OFF_PEAK_ENERGY), (.ref w_BILLING_DEMAND_DAYS), (.ref w_METERED_DEMAND_DAYS), (.ref w_FIXTURE_DAYS), (.ref w_HIGHEST_HOUR_ENERGY), (.ref w_GAS_INDEXED_ENERGY), (.ref w_POOL_PRICED_ENERGY), (.ref w_ISO_COSTS), .null] .null := Arv.set Ar59 q59 S59 M59 Hs59 G59 rfl W60 10 rfl (Nat.le_of_ble_eq_true rfl)
  have OL60 := OL57.wr W60 g_b27
  have N60 := Fr.snoc X60 N57 g_b27
  obtain ⟨T61, X61, e61, st61⟩ := getS2 X60 hx hZ hown (host := "") (Or.inl (wd76 hw)) Via.refl e60 (pr39.ext OL60.2) (g := (mkF m 171 #[iv p1, iv p2, iv p3, iv p4, iv p5, rv b1, rv b3, rv b5, rv b16, uu, uu, uu, uu, uu, uu] [(.int (11 : Int32)), (.ref b27), (.ref b27)])) rfl (hb hby at_171)
  obtain ⟨cl62, Ar62, q62, S62, M62, Hs62, G62⟩ := id V60
  have hin62 : ¬ ((11 : Int32) < 0 ∨ cl62.slots.size ≤ ((11 : Int32)).toNatClampNeg) := inb_of S62 ⟨by decide, by decide⟩
  obtain ⟨T63, h63, X63, e63, W63, st63⟩ := stR X61 hx hZ e61 Ar62 (j := (11 : Int32)) hin62 rfl (Sto.ofV Ar62 q62 O27 (Ins.self (pr40.ext OL60.2))) (g := (mkF m 174 #[iv p1, iv p2, iv p3, iv p4, iv p5, rv b1, rv b3, rv b5, rv b16, uu, uu, uu, uu, uu, uu] [(.ref w_DISTRIBUTION_ACCESS_CHARGES), (.int (11 : Int32)), (.ref b27), (.ref b27)])) rfl rfl (hb hby at_174)
  have V63 : Arv Z h63 b27 k27 (.object s26) (12 : Int32) [(.ref w_DAYS), (.ref w_ENERGY), (.ref w_ON_PEAK_ENERGY), (.ref w_OFF_PEAK_ENERGY), (.ref w_BILLING_DEMAND_DAYS), (.ref w_METERED_DEMAND_DAYS), (.ref w_FIXTURE_DAYS), (.ref w_HIGHEST_HOUR_ENERGY), (.ref w_GAS_INDEXED_ENERGY), (.ref w_POOL_PRICED_ENERGY), (.ref w_ISO_COSTS), (.ref w_DISTRIBUTION_ACCESS_CHARGES)] .null := Arv.set Ar62 q62 S62 M62 Hs62 G62 rfl W63 11 rfl (Nat.le_of_ble_eq_true rfl)
  have OL63 := OL60.wr W63 g_b27
  have N63 := Fr.snoc X63 N60 g_b27
  obtain ⟨cl64, Ar64, -, S64, -, Hs64, -⟩ := id V63
  have hin64 : ¬ (y12 < 0 ∨ cl64.slots.size ≤ (y12).toNatClampNeg) := inb_of S64 ⟨pr43, pr44⟩
  have hat64 : cl64.slots[(y12).toNatClampNeg]? = some (.ref v1) := Hs64.at hin64 pr45
  have pre65 : ∀ t, SS p e below T63 m 194 #[iv p1, iv p2, iv p3, iv p4, iv p5, rv b1, rv b3, rv b5, rv b16, rv b27, rv v1, uu, uu, uu, uu] [(.ref b3), (.ref b1), (.int p4)] t → Steps p.tables e below (s₁.setTop (entryFrame m #[(.int p1), (.int p2), (.int p3), (.int p4), (.int p5)] maxLocals)) t := by
    intro t kt
    refine pre0 _ ?_
    refine st1 _ ?_
    show SS p e below T1 m 3 #[iv p1, iv p2, iv p3, iv p4, iv p5, uu, uu, uu, uu, uu, uu, uu, uu, uu, uu] [(.ref b1)] _
    refine XS.dup X1.here hx rfl (hb hby at_3) rfl rfl ?_
    refine XS.aconstNull X1.here hx rfl (hb hby at_4) ?_
    refine XS.aconstNull X1.here hx rfl (hb hby at_5) ?_
    refine XS.aconstNull X1.here hx rfl (hb hby at_6) ?_
    refine XS.aconstNull X1.here hx rfl (hb hby at_7) ?_
    refine st2 _ ?_
    refine XS.astore X2.here hx rfl (hb hby at_11) rfl rfl (l' := #[iv p1, iv p2, iv p3, iv p4, iv p5, rv b1, uu, uu, uu, uu, uu, uu, uu, uu, uu]) rfl ?_
    refine st3 _ ?_
    refine XS.dup X3.here hx rfl (hb hby at_16) rfl rfl ?_
    refine XS.aconstNull X3.here hx rfl (hb hby at_17) ?_
    show SS p e below T3 m 18 #[iv p1, iv p2, iv p3, iv p4, iv p5, rv b1, uu, uu, uu, uu, uu, uu, uu, uu, uu] [.null, (.ref b3), (.ref b3)] _
    refine XS.aconstNull X3.here hx rfl (hb hby at_18) ?_
    refine XS.aconstNull X3.here hx rfl (hb hby at_19) ?_
    refine XS.aconstNull X3.here hx rfl (hb hby at_20) ?_
    refine st4 _ ?_
    refine XS.astore X4.here hx rfl (hb hby at_24) rfl rfl (l' := #[iv p1, iv p2, iv p3, iv p4, iv p5, rv b1, rv b3, uu, uu, uu, uu, uu, uu, uu, uu]) rfl ?_
    refine st5 _ ?_
    refine XS.dup X5.here hx rfl (hb hby at_29) rfl rfl ?_
    refine XS.iconst X5.here hx rfl (hb hby at_30) ?_
    refine st6 _ ?_
    refine XS.dup X6.here hx rfl (hb hby at_33) rfl rfl ?_
    show SS p e below T6 m 34 #[iv p1, iv p2, iv p3, iv p4, iv p5, rv b1, rv b3, uu, uu, uu, uu, uu, uu, uu, uu] [(.ref b6), (.ref b6), (.ref b5), (.ref b5)] _
    refine XS.iconst X6.here hx rfl (hb hby at_34) ?_
    refine XS.iloadN X6.here hx rfl (hb hby at_35) rfl ?_
    refine XS.sipush X6.here hx rfl (hb hby at_36) ?_
    refine XS.iand X6.here hx rfl (hb hby at_39) rfl ?_
    show SS p e below T6 m 40 #[iv p1, iv p2, iv p3, iv p4, iv p5, rv b1, rv b3, uu, uu, uu, uu, uu, uu, uu, uu] [(.int (p1 &&& (255 : Int32))), (.int (0 : Int32)), (.ref b6), (.ref b6), (.ref b5), (.ref b5)] _
    rw [pr1]
    refine XS.i2c X6.here hx rfl (hb hby at_40) rfl ?_
    show SS p e below T6 m 41 #[iv p1, iv p2, iv p3, iv p4, iv p5, rv b1, rv b3, uu, uu, uu, uu, uu, uu, uu, uu] [(.int (y1.toUInt32.toUInt16.toUInt32.toInt32)), (.int (0 : Int32)), (.ref b6), (.ref b6), (.ref b5), (.ref b5)] _
    rw [pr2]
    refine st8 _ ?_
    refine XS.dup X8.here hx rfl (hb hby at_42) rfl rfl ?_
    refine XS.iconst X8.here hx rfl (hb hby at_43) ?_
    refine XS.iloadN X8.here hx rfl (hb hby at_44) rfl ?_
    refine XS.bipush X8.here hx rfl (hb hby at_45) ?_
    show SS p e below T8 m 47 #[iv p1, iv p2, iv p3, iv p4, iv p5, rv b1, rv b3, uu, uu, uu, uu, uu, uu, uu, uu] [(.int (8 : Int32)), (.int p1), (.int (1 : Int32)), (.ref b6), (.ref b6), (.ref b5), (.ref b5)] _
    refine XS.iushr X8.here hx rfl (hb hby at_47) rfl ?_
    show SS p e below T8 m 48 #[iv p1, iv p2, iv p3, iv p4, iv p5, rv b1, rv b3, uu, uu, uu, uu, uu, uu, uu, uu] [(.int ((p1.toUInt32 >>> ((8 : Int32) &&& 31).toUInt32).toInt32)), (.int (1 : Int32)), (.ref b6), (.ref b6), (.ref b5), (.ref b5)] _
    rw [pr3]
    refine XS.sipush X8.here hx rfl (hb hby at_48) ?_
    refine XS.iand X8.here hx rfl (hb hby at_51) rfl ?_
    show SS p e below T8 m 52 #[iv p1, iv p2, iv p3, iv p4, iv p5, rv b1, rv b3, uu, uu, uu, uu, uu, uu, uu, uu] [(.int (y3 &&& (255 : Int32))), (.int (1 : Int32)), (.ref b6), (.ref b6), (.ref b5), (.ref b5)] _
    rw [pr4]
    refine XS.i2c X8.here hx rfl (hb hby at_52) rfl ?_
    show SS p e below T8 m 53 #[iv p1, iv p2, iv p3, iv p4, iv p5, rv b1, rv b3, uu, uu, uu, uu, uu, uu, uu, uu] [(.int (y4.toUInt32.toUInt16.toUInt32.toInt32)), (.int (1 : Int32)), (.ref b6), (.ref b6), (.ref b5), (.ref b5)] _
    rw [pr5]
    refine st10 _ ?_
    refine st11 _ ?_
    refine XS.astore X11.here hx rfl (hb hby at_57) rfl rfl (l' := #[iv p1, iv p2, iv p3, iv p4, iv p5, rv b1, rv b3, rv b5, uu, uu, uu, uu, uu, uu, uu]) rfl ?_
    refine st16 _ ?_
    refine XS.dup X16.here hx rfl (hb hby at_62) rfl rfl ?_
    refine XS.iconst X16.here hx rfl (hb hby at_63) ?_
    show SS p e below T16 m 64 #[iv p1, iv p2, iv p3, iv p4, iv p5, rv b1, rv b3, rv b5, uu, uu, uu, uu, uu, uu, uu] [(.int (2 : Int32)), (.ref b16), (.ref b16)] _
    refine st17 _ ?_
    refine XS.dup X17.here hx rfl (hb hby at_66) rfl rfl ?_
    refine XS.iconst X17.here hx rfl (hb hby at_67) ?_
    refine XS.iloadN X17.here hx rfl (hb hby at_68) rfl ?_
    refine XS.sipush X17.here hx rfl (hb hby at_69) ?_
    refine XS.iand X17.here hx rfl (hb hby at_72) rfl ?_
    show SS p e below T17 m 73 #[iv p1, iv p2, iv p3, iv p4, iv p5, rv b1, rv b3, rv b5, uu, uu, uu, uu, uu, uu, uu] [(.int (p2 &&& (255 : Int32))), (.int (0 : Int32)), (.ref b17), (.ref b17), (.ref b16), (.ref b16)] _
    rw [pr10]
    refine XS.i2c X17.here hx rfl (hb hby at_73) rfl ?_
    show SS p e below T17 m 74 #[iv p1, iv p2, iv p3, iv p4, iv p5, rv b1, rv b3, rv b5, uu, uu, uu, uu, uu, uu, uu] [(.int (y6.toUInt32.toUInt16.toUInt32.toInt32)), (.int (0 : Int32)), (.ref b17), (.ref b17), (.ref b16), (.ref b16)] _
    rw [pr11]
    refine st19 _ ?_
    refine XS.dup X19.here hx rfl (hb hby at_75) rfl rfl ?_
    refine XS.iconst X19.here hx rfl (hb hby at_76) ?_
    show SS p e below T19 m 77 #[iv p1, iv p2, iv p3, iv p4, iv p5, rv b1, rv b3, rv b5, uu, uu, uu, uu, uu, uu, uu] [(.int (1 : Int32)), (.ref b17), (.ref b17), (.ref b16), (.ref b16)] _
    refine XS.iloadN X19.here hx rfl (hb hby at_77) rfl ?_
    refine XS.bipush X19.here hx rfl (hb hby at_78) ?_
    refine XS.iushr X19.here hx rfl (hb hby at_80) rfl ?_
    show SS p e below T19 m 81 #[iv p1, iv p2, iv p3, iv p4, iv p5, rv b1, rv b3, rv b5, uu, uu, uu, uu, uu, uu, uu] [(.int ((p2.toUInt32 >>> ((8 : Int32) &&& 31).toUInt32).toInt32)), (.int (1 : Int32)), (.ref b17), (.ref b17), (.ref b16), (.ref b16)] _
    rw [pr12]
    refine XS.sipush X19.here hx rfl (hb hby at_81) ?_
    refine XS.iand X19.here hx rfl (hb hby at_84) rfl ?_
    show SS p e below T19 m 85 #[iv p1, iv p2, iv p3, iv p4, iv p5, rv b1, rv b3, rv b5, uu, uu, uu, uu, uu, uu, uu] [(.int (y8 &&& (255 : Int32))), (.int (1 : Int32)), (.ref b17), (.ref b17), (.ref b16), (.ref b16)] _
    rw [pr13]
    refine XS.i2c X19.here hx rfl (hb hby at_85) rfl ?_
    show SS p e below T19 m 86 #[iv p1, iv p2, iv p3, iv p4, iv p5, rv b1, rv b3, rv b5, uu, uu, uu, uu, uu, uu, uu] [(.int (y9.toUInt32.toUInt16.toUInt32.toInt32)), (.int (1 : Int32)), (.ref b17), (.ref b17), (.ref b16), (.ref b16)] _
    rw [pr14]
    refine st21 _ ?_
    refine st22 _ ?_
    refine XS.astore X22.here hx rfl (hb hby at_90) rfl rfl (l' := #[iv p1, iv p2, iv p3, iv p4, iv p5, rv b1, rv b3, rv b5, rv b16, uu, uu, uu, uu, uu, uu]) rfl ?_
    refine XS.bipush X22.here hx rfl (hb hby at_92) ?_
    show SS p e below T22 m 94 #[iv p1, iv p2, iv p3, iv p4, iv p5, rv b1, rv b3, rv b5, rv b16, uu, uu, uu, uu, uu, uu] [(.int (12 : Int32))] _
    refine st27 _ ?_
    refine XS.dup X27.here hx rfl (hb hby at_97) rfl rfl ?_
    refine XS.iconst X27.here hx rfl (hb hby at_98) ?_
    refine st28 _ ?_
    refine st30 _ ?_
    refine XS.dup X30.here hx rfl (hb hby at_103) rfl rfl ?_
    refine XS.iconst X30.here hx rfl (hb hby at_104) ?_
    refine st31 _ ?_
    refine st33 _ ?_
    refine XS.dup X33.here hx rfl (hb hby at_109) rfl rfl ?_
    show SS p e below T33 m 110 #[iv p1, iv p2, iv p3, iv p4, iv p5, rv b1, rv b3, rv b5, rv b16, uu, uu, uu, uu, uu, uu] [(.ref b27), (.ref b27)] _
    refine XS.iconst X33.here hx rfl (hb hby at_110) ?_
    refine st34 _ ?_
    refine st36 _ ?_
    refine XS.dup X36.here hx rfl (hb hby at_115) rfl rfl ?_
    refine XS.iconst X36.here hx rfl (hb hby at_116) ?_
    refine st37 _ ?_
    refine st39 _ ?_
    refine XS.dup X39.here hx rfl (hb hby at_121) rfl rfl ?_
    refine XS.iconst X39.here hx rfl (hb hby at_122) ?_
    refine st40 _ ?_
    show SS p e below T40 m 126 #[iv p1, iv p2, iv p3, iv p4, iv p5, rv b1, rv b3, rv b5, rv b16, uu, uu, uu, uu, uu, uu] [(.ref w_BILLING_DEMAND_DAYS), (.int (4 : Int32)), (.ref b27), (.ref b27)] _
    refine st42 _ ?_
    refine XS.dup X42.here hx rfl (hb hby at_127) rfl rfl ?_
    refine XS.iconst X42.here hx rfl (hb hby at_128) ?_
    refine st43 _ ?_
    refine st45 _ ?_
    refine XS.dup X45.here hx rfl (hb hby at_133) rfl rfl ?_
    refine XS.bipush X45.here hx rfl (hb hby at_134) ?_
    refine st46 _ ?_
    refine st48 _ ?_
    refine XS.dup X48.here hx rfl (hb hby at_140) rfl rfl ?_
    show SS p e below T48 m 141 #[iv p1, iv p2, iv p3, iv p4, iv p5, rv b1, rv b3, rv b5, rv b16, uu, uu, uu, uu, uu, uu] [(.ref b27), (.ref b27)] _
    refine XS.bipush X48.here hx rfl (hb hby at_141) ?_
    refine st49 _ ?_
    refine st51 _ ?_
    refine XS.dup X51.here hx rfl (hb hby at_147) rfl rfl ?_
    refine XS.bipush X51.here hx rfl (hb hby at_148) ?_
    refine st52 _ ?_
    refine st54 _ ?_
    refine XS.dup X54.here hx rfl (hb hby at_154) rfl rfl ?_
    refine XS.bipush X54.here hx rfl (hb hby at_155) ?_
    refine st55 _ ?_
    show SS p e below T55 m 160 #[iv p1, iv p2, iv p3, iv p4, iv p5, rv b1, rv b3, rv b5, rv b16, uu, uu, uu, uu, uu, uu] [(.ref w_POOL_PRICED_ENERGY), (.int (9 : Int32)), (.ref b27), (.ref b27)] _
    refine st57 _ ?_
    refine XS.dup X57.here hx rfl (hb hby at_161) rfl rfl ?_
    refine XS.bipush X57.here hx rfl (hb hby at_162) ?_
    refine st58 _ ?_
    refine st60 _ ?_
    refine XS.dup X60.here hx rfl (hb hby at_168) rfl rfl ?_
    refine XS.bipush X60.here hx rfl (hb hby at_169) ?_
    refine st61 _ ?_
    refine st63 _ ?_
    refine XS.astore X63.here hx rfl (hb hby at_175) rfl rfl (l' := #[iv p1, iv p2, iv p3, iv p4, iv p5, rv b1, rv b3, rv b5, rv b16, rv b27, uu, uu, uu, uu, uu]) rfl ?_
    show SS p e below T63 m 177 #[iv p1, iv p2, iv p3, iv p4, iv p5, rv b1, rv b3, rv b5, rv b16, rv b27, uu, uu, uu, uu, uu] [] _
    refine XS.aload X63.here hx rfl (hb hby at_177) rfl rfl ?_
    refine XS.iloadN X63.here hx rfl (hb hby at_179) rfl ?_
    refine X63.ldcInt hx hown (mvT hZ (wd78 hw)) (g := (mkF m 180 #[iv p1, iv p2, iv p3, iv p4, iv p5, rv b1, rv b3, rv b5, rv b16, rv b27, uu, uu, uu, uu, uu] [(.int p3), (.ref b27)])) rfl (hb hby at_180) _ ?_
    refine XS.iand X63.here hx rfl (hb hby at_182) rfl ?_
    show SS p e below T63 m 183 #[iv p1, iv p2, iv p3, iv p4, iv p5, rv b1, rv b3, rv b5, rv b16, rv b27, uu, uu, uu, uu, uu] [(.int (p3 &&& (2147483647 : Int32))), (.ref b27)] _
    rw [pr41]
    refine XS.bipush X63.here hx rfl (hb hby at_183) ?_
    refine iremM X63 hx rfl (hb hby at_185) rfl (by decide) ?_
    show SS p e below T63 m 186 #[iv p1, iv p2, iv p3, iv p4, iv p5, rv b1, rv b3, rv b5, rv b16, rv b27, uu, uu, uu, uu, uu] [(.int (y11 % (12 : Int32))), (.ref b27)] _
    rw [pr42]
    refine X63.aaload hx (j := y12) (v := (.ref v1)) (by rw [e63]; exact Ar64.1) (State.isArrayOf_alike hZ.alike Ar64.2.1) rfl Ar64.2.2 hin64 hat64 (g := (mkF m 186 #[iv p1, iv p2, iv p3, iv p4, iv p5, rv b1, rv b3, rv b5, rv b16, rv b27, uu, uu, uu, uu, uu] [(.int y12), (.ref b27)])) rfl rfl (hb hby at_186) _ ?_
    refine XS.astore X63.here hx rfl (hb hby at_187) rfl rfl (l' := #[iv p1, iv p2, iv p3, iv p4, iv p5, rv b1, rv b3, rv b5, rv b16, rv b27, rv v1, uu, uu, uu, uu]) rfl ?_
    refine XS.iloadN X63.here hx rfl (hb hby at_189) rfl ?_
    refine XS.aload X63.here hx rfl (hb hby at_190) rfl rfl ?_
    show SS p e below T63 m 192 #[iv p1, iv p2, iv p3, iv p4, iv p5, rv b1, rv b3, rv b5, rv b16, rv b27, rv v1, uu, uu, uu, uu] [(.ref b1), (.int p4)] _
    refine XS.aload X63.here hx rfl (hb hby at_192) rfl rfl ?_
    exact kt
  rcases own_and3 p4 with hf65 | hf65 | hf65 | hf65
  · obtain ⟨_, T66, L66, X66, hQ66, st66⟩ := own_cS X63 hx hZ hown hml (cw10 hw) (rm9_0 l Z a0 hw p4 b1 b3 w_DEFAULTCAPACITY_EMPTY_ELEMENTDATA h63 n0 OL63 hf65 pr46) e63 194 #[iv p1, iv p2, iv p3, iv p4, iv p5, rv b1, rv b3, rv b5, rv b16, rv b27, rv v1, uu, uu, uu, uu] [(.int p4), (.ref b1), (.ref b3)] [] 0 rfl (hb hby at_194) (by decide)
    obtain ⟨b66_0, rfl, Nq66, K66, u66_0, u66_1, u66_2, u66_3, u66_4⟩ := hQ66
    have OL66 := OL63.keep K66 all0
    have g_b66_0 : n0 ≤ b66_0 := Nat.le_trans (Nat.le_trans (Nat.le_of_eq OL63.1.symm) OL63.2.1) u66_0
    have N66 := Fr.app N63 Nq66
    obtain ⟨T67, h67, X67, e67, E67, A67, D67, -, st67⟩ := newO X66 hx hZ hown (wd141 hw) (wd142 hw) (wd143 hw) rfl (g := (mkF m 199 #[iv p1, iv p2, iv p3, iv p4, iv p5, rv b1, rv b3, rv b5, rv b16, rv b27, rv v1, rv b66_0, uu, uu, uu] [])) rfl (hb hby at_199) (by decide) (by decide)
    obtain ⟨b67, g67⟩ : ∃ z, z = T66.heap.size := ⟨_, rfl⟩
    rw [← g67] at A67 D67 st67
    have g_b67 : n0 ≤ b67 := (Nat.le_trans (Nat.le_trans (Nat.le_of_eq OL66.1.symm) OL66.2.1) (Nat.le_of_eq g67.symm))
    have OL67 := OL66.ext E67
    have F_id_b67 : Fld Z h67 b67 s27 "id" s11 .null := D67 (Or.inr (wd235 hw)) (ty := (.object s39)) (by decide)
    have F_name_b67 : Fld Z h67 b67 s27 "name" s11 .null := D67 (Or.inr (wd237 hw)) (ty := (.object s39)) (by decide)
    have F_basis_b67 : Fld Z h67 b67 s27 "basis" s9 .null := D67 (Or.inr (wd239 hw)) (ty := (.object s26)) (by decide)
    have F_onlyFor_b67 : Fld Z h67 b67 s27 "onlyFor" s16 .null := D67 (Or.inr (wd241 hw)) (ty := (.object s54)) (by decide)
    have F_chargeFor_b67 : Fld Z h67 b67 s27 s24 s16 .null := D67 (Or.inr (wd243 hw)) (ty := (.object s54)) (by decide)
    have F_prices_b67 : Fld Z h67 b67 s27 "prices" s15 .null := D67 (Or.inr (wd245 hw)) (ty := (.object s52)) (by decide)
    have fc69 := (u66_1.ext E67)
    have fc70 := (u66_4.ext E67)
    obtain ⟨_, T68, L68, X68, hQ68, st68⟩ := own_cN X67 hx hZ hown hml (cw16 hw) (rm19_0 l Z a0 hw b67 b5 b16 v1 b66_0 w_EMPTY_LIST h67 n0 OL67 fc69 fc70 pr47 A67 F_id_b67 g_b67 F_name_b67 F_basis_b67 F_onlyFor_b67 F_chargeFor_b67 F_prices_b67) e67 b67 213 #[iv p1, iv p2, iv p3, iv p4, iv p5, rv b1, rv b3, rv b5, rv b16, rv b27, rv v1, rv b66_0, uu, uu, uu] [(.ref b5), (.ref b16), (.ref v1), .null, .null, (.ref b66_0)] [(.ref b67)] 1 rfl (hb hby at_213) (by decide)
    obtain ⟨rfl, Nq68, K68, u68_0, u68_1, u68_2, u68_3, u68_4, u68_5⟩ := hQ68
    have OL68 := OL67.keep K68 (allS g_b67 all0)
    have N68 := Fr.app N66 Nq68
    have pre71 : ∀ t, SS p e below T68 m 224 #[iv p1, iv p2, iv p3, iv p4, iv p5, rv b1, rv b3, rv b5, rv b16, rv b27, rv v1, rv b66_0, rv b67, uu, uu] [(.ref b3), (.ref b1), (.int p5)] t → Steps p.tables e below (s₁.setTop (entryFrame m #[(.int p1), (.int p2), (.int p3), (.int p4), (.int p5)] maxLocals)) t := by
      intro t kt
      refine pre65 _ ?_
      refine st66 _ ?_
      show SS p e below T66 m 197 #[iv p1, iv p2, iv p3, iv p4, iv p5, rv b1, rv b3, rv b5, rv b16, rv b27, rv v1, uu, uu, uu, uu] [(.ref b66_0)] _
      refine XS.astore X66.here hx rfl (hb hby at_197) rfl rfl (l' := #[iv p1, iv p2, iv p3, iv p4, iv p5, rv b1, rv b3, rv b5, rv b16, rv b27, rv v1, rv b66_0, uu, uu, uu]) rfl ?_
      refine st67 _ ?_
      refine XS.dup X67.here hx rfl (hb hby at_202) rfl rfl ?_
      refine XS.aload X67.here hx rfl (hb hby at_203) rfl rfl ?_
      refine XS.aload X67.here hx rfl (hb hby at_205) rfl rfl ?_
      refine XS.aload X67.here hx rfl (hb hby at_207) rfl rfl ?_
      refine XS.aconstNull X67.here hx rfl (hb hby at_209) ?_
      refine XS.aconstNull X67.here hx rfl (hb hby at_210) ?_
      refine XS.aload X67.here hx rfl (hb hby at_211) rfl rfl ?_
      refine st68 _ ?_
      show SS p e below T68 m 216 #[iv p1, iv p2, iv p3, iv p4, iv p5, rv b1, rv b3, rv b5, rv b16, rv b27, rv v1, rv b66_0, uu, uu, uu] [(.ref b67)] _
      refine XS.astore X68.here hx rfl (hb hby at_216) rfl rfl (l' := #[iv p1, iv p2, iv p3, iv p4, iv p5, rv b1, rv b3, rv b5, rv b16, rv b27, rv v1, rv b66_0, rv b67, uu, uu]) rfl ?_
      refine XS.iload X68.here hx rfl (hb hby at_218) rfl ?_
      refine XS.aload X68.here hx rfl (hb hby at_220) rfl rfl ?_
      refine XS.aload X68.here hx rfl (hb hby at_222) rfl rfl ?_
      exact kt
    rcases own_and3 p5 with hf71 | hf71 | hf71 | hf71
    · obtain ⟨_, T72, L72, X72, hQ72, st72⟩ := own_cS X68 hx hZ hown hml (cw10 hw) (rm9_0 l Z a0 hw p5 b1 b3 w_DEFAULTCAPACITY_EMPTY_ELEMENTDATA T68.heap n0 OL68 hf71 pr46) rfl 224 #[iv p1, iv p2, iv p3, iv p4, iv p5, rv b1, rv b3, rv b5, rv b16, rv b27, rv v1, rv b66_0, rv b67, uu, uu] [(.int p5), (.ref b1), (.ref b3)] [] 0 rfl (hb hby at_224) (by decide)
      obtain ⟨b72_0, rfl, Nq72, K72, u72_0, u72_1, u72_2, u72_3, u72_4⟩ := hQ72
      have OL72 := OL68.keep K72 all0
      have g_b72_0 : n0 ≤ b72_0 := Nat.le_trans (Nat.le_trans (Nat.le_of_eq OL68.1.symm) OL68.2.1) u72_0
      have N72 := Fr.app N68 Nq72
      have fc74 := (u68_0.keep K72 nin0)
      have fc75 := (u68_1.keep K72 nin0)
      have fc76 := (u68_2.keep K72 nin0)
      have fc77 := (u68_3.keep K72 nin0)
      have fc78 := (u68_4.keep K72 nin0)
      have fc79 := ((A67.keep K68).keep K72)
      obtain ⟨_, T73, L73, X73, hQ73, st73⟩ := own_cV X72 hx hZ hown hml (cw18 hw) (rm32_0 l Z a0 hw b67 b72_0 b5 b16 v1 w_EMPTY_LIST T72.heap n0 OL72 fc74 fc75 fc76 fc77 fc78 u72_1 u72_4 pr47) rfl fc79 233 #[iv p1, iv p2, iv p3, iv p4, iv p5, rv b1, rv b3, rv b5, rv b16, rv b27, rv v1, rv b66_0, rv b67, rv b72_0, uu] [(.ref b72_0)] [] 0 rfl (hb hby at_233) (by decide)
      obtain ⟨b73_0, rfl, Nq73, K73, u73_0, u73_1, u73_2, u73_3, u73_4, u73_5, u73_6, u73_7⟩ := hQ73
      have OL73 := OL72.keep K73 all0
      have N73 := Fr.app N72 Nq73
      have fc81 := (u72_2.keep K73 nin0)
      have fc82 := (u72_1.keep K73)
      have fc83 := (u72_3.keep K73 nin0)
      have fc84 := (u72_4.keep K73 nin0)
      have fc85 := (((((((((((((((((((((((((((((((A1.keep K2).ext E3).keep K4).ext E5).ext E6).wr W8).wr W10).keep K11).ext E16).ext E17).wr W19).wr W21).keep K22).ext E27).wr W30).wr W33).wr W36).wr W39).wr W42).wr W45).wr W48).wr W51).wr W54).wr W57).wr W60).wr W63).keep K66).ext E67).keep K68).keep K72).keep K73)
      obtain ⟨_, T80, L80, X80, hQ80, st80⟩ := own_cV X73 hx hZ hown hml (cw23 hw) (rm14_0 l Z a0 hw b72_0 b1 w_DEFAULTCAPACITY_EMPTY_ELEMENTDATA k_w_DEFAULTCAPACITY_EMPTY_ELEMENTDATA T73.heap n0 OL73 fc81 fc82 g_b72_0 fc83 fc84 pr48 pr46 fc85) rfl fc82 242 #[iv p1, iv p2, iv p3, iv p4, iv p5, rv b1, rv b3, rv b5, rv b16, rv b27, rv v1, rv b66_0, rv b67, rv b72_0, rv b73_0] [(.ref b1)] [] 0 rfl (hb hby at_242) (by decide)
      obtain ⟨b80_0, kx80_0, rfl, Nq80, K80, u80_0, u80_1, u80_2, u80_3, u80_4, u80_5, u80_6⟩ := hQ80
      have OL80 := OL73.keep K80 (allS g_b72_0 all0)
      have N80 := Fr.app N73 Nq80
      have nz87 := (nl u66_4.lt (Nat.le_of_eq g67.symm))
      have lz88 := (lq fc70.lt K68.1)
      have nz89 := nl lz88 u72_0
      have fc90 := (((((u66_2.ext E67).keep K68 (ninS nz87 nin0)).keep K72 nin0).keep K73 nin0).keep K80 (ninS nz89 nin0))
      have fc91 := ((((fc69.keep K68).keep K72).keep K73).keep K80)
      have fc92 := (((((u66_3.ext E67).keep K68 (ninS nz87 nin0)).keep K72 nin0).keep K73 nin0).keep K80 (ninS nz89 nin0))
      have fc93 := ((((fc70.keep K68 (ninS nz87 nin0)).keep K72 nin0).keep K73 nin0).keep K80 (ninS nz89 nin0))
      have fc94 := ((((((((((((((((((((((((((((((A3.keep K4).ext E5).ext E6).wr W8).wr W10).keep K11).ext E16).ext E17).wr W19).wr W21).keep K22).ext E27).wr W30).wr W33).wr W36).wr W39).wr W42).wr W45).wr W48).wr W51).wr W54).wr W57).wr W60).wr W63).keep K66).ext E67).keep K68).keep K72).keep K73).keep K80)
      obtain ⟨_, T86, L86, X86, hQ86, st86⟩ := own_cV X80 hx hZ hown hml (cw23 hw) (rm14_0 l Z a0 hw b66_0 b3 w_DEFAULTCAPACITY_EMPTY_ELEMENTDATA k_w_DEFAULTCAPACITY_EMPTY_ELEMENTDATA T80.heap n0 OL80 fc90 fc91 g_b66_0 fc92 fc93 pr48 pr46 fc94) rfl fc91 250 #[iv p1, iv p2, iv p3, iv p4, iv p5, rv b1, rv b3, rv b5, rv b16, rv b27, rv v1, rv b66_0, rv b67, rv b72_0, rv b73_0] [(.ref b3)] [] 0 rfl (hb hby at_250) (by decide)
      obtain ⟨b86_0, kx86_0, rfl, Nq86, K86, u86_0, u86_1, u86_2, u86_3, u86_4, u86_5, u86_6⟩ := hQ86
      have OL86 := OL80.keep K86 (allS g_b66_0 all0)
      have N86 := Fr.app N80 Nq86
      have nz96 := nl u72_4.lt u73_0
      have lz97 := (lq lz88 K72.1)
      have nz98 := nl lz97 u73_0
      have fc99 := ((u73_2.keep K80 (ninS (Ne.symm nz96) nin0)).keep K86 (ninS (Ne.symm nz98) nin0))
      have fc100 := ((u73_1.keep K80).keep K86)
      obtain ⟨_, T95, L95, X95, hQ95, st95⟩ := own_cV X86 hx hZ hown hml (cw24 hw) (rm34_0 l Z a0 hw b73_0 b5 T86.heap n0 OL86 fc99) rfl fc100 256 #[iv p1, iv p2, iv p3, iv p4, iv p5, rv b1, rv b3, rv b5, rv b16, rv b27, rv v1, rv b66_0, rv b67, rv b72_0, rv b73_0] [] [] 0 rfl (hb hby at_256) (by decide)
      obtain ⟨rfl, Nq95, ec95⟩ := hQ95
      have N95 := Fr.app N86 Nq95
      have fc102 := ((((((((((((((((((((((((((fc12.keep K11).ext E16).ext E17).wr W19).wr W21).keep K22).ext E27).wr W30).wr W33).wr W36).wr W39).wr W42).wr W45).wr W48).wr W51).wr W54).wr W57).wr W60).wr W63).keep K66).ext E67).keep K68).keep K72).keep K73).keep K80).keep K86)
      obtain ⟨_, T101, L101, X101, hQ101, st101⟩ := own_cV X95 hx hZ hown hml (cw25 hw) (rm35_0 l Z a0 hw b5 T86.heap n0 OL86 ) ec95 fc102 261 #[iv p1, iv p2, iv p3, iv p4, iv p5, rv b1, rv b3, rv b5, rv b16, rv b27, rv v1, rv b66_0, rv b67, rv b72_0, rv b73_0] [(.ref b5)] [] 0 rfl (hb hby at_261) (by decide)
      obtain ⟨rfl, Nq101, ec101⟩ := hQ101
      have N101 := Fr.app N95 Nq101
      have fc104 := ((u73_3.keep K80 (ninS (Ne.symm nz96) nin0)).keep K86 (ninS (Ne.symm nz98) nin0))
      obtain ⟨_, T103, L103, X103, hQ103, st103⟩ := own_cV X101 hx hZ hown hml (cw26 hw) (rm36_0 l Z a0 hw b73_0 b16 T86.heap n0 OL86 fc104) ec101 fc100 269 #[iv p1, iv p2, iv p3, iv p4, iv p5, rv b1, rv b3, rv b5, rv b16, rv b27, rv v1, rv b66_0, rv b67, rv b72_0, rv b73_0] [] [] 0 rfl (hb hby at_269) (by decide)
      obtain ⟨rfl, Nq103, ec103⟩ := hQ103
      have N103 := Fr.app N101 Nq103
      have fc106 := (((((((((((((((((((((fc23.keep K22).ext E27).wr W30).wr W33).wr W36).wr W39).wr W42).wr W45).wr W48).wr W51).wr W54).wr W57).wr W60).wr W63).keep K66).ext E67).keep K68).keep K72).keep K73).keep K80).keep K86)
      obtain ⟨_, T105, L105, X105, hQ105, st105⟩ := own_cV X103 hx hZ hown hml (cw25 hw) (rm35_0 l Z a0 hw b16 T86.heap n0 OL86 ) ec103 fc106 274 #[iv p1, iv p2, iv p3, iv p4, iv p5, rv b1, rv b3, rv b5, rv b16, rv b27, rv v1, rv b66_0, rv b67, rv b72_0, rv b73_0] [(.ref b16)] [] 0 rfl (hb hby at_274) (by decide)
      obtain ⟨rfl, Nq105, ec105⟩ := hQ105
      have N105 := Fr.app N103 Nq105
      have fc108 := ((u73_4.keep K80 (ninS (Ne.symm nz96) nin0)).keep K86 (ninS (Ne.symm nz98) nin0))
      obtain ⟨_, T107, L107, X107, hQ107, st107⟩ := own_cV X105 hx hZ hown hml (cw27 hw) (rm37_0 l Z a0 hw b73_0 v1 T86.heap n0 OL86 fc108) ec105 fc100 282 #[iv p1, iv p2, iv p3, iv p4, iv p5, rv b1, rv b3, rv b5, rv b16, rv b27, rv v1, rv b66_0, rv b67, rv b72_0, rv b73_0] [] [] 0 rfl (hb hby at_282) (by decide)
      obtain ⟨rfl, Nq107, ec107⟩ := hQ107
      have N107 := Fr.app N105 Nq107
      have fc110 := ((u73_5.keep K80 (ninS (Ne.symm nz96) nin0)).keep K86 (ninS (Ne.symm nz98) nin0))
      obtain ⟨_, T109, L109, X109, hQ109, st109⟩ := own_cV X107 hx hZ hown hml (cw28 hw) (rm38_0 l Z a0 hw b73_0 T86.heap n0 OL86 fc110) ec107 fc100 292 #[iv p1, iv p2, iv p3, iv p4, iv p5, rv b1, rv b3, rv b5, rv b16, rv b27, rv v1, rv b66_0, rv b67, rv b72_0, rv b73_0] [] [] 0 rfl (hb hby at_292) (by decide)
      obtain ⟨rfl, Nq109, ec109⟩ := hQ109
      have N109 := Fr.app N107 Nq109
      have fc112 := ((u73_6.keep K80 (ninS (Ne.symm nz96) nin0)).keep K86 (ninS (Ne.symm nz98) nin0))
      obtain ⟨_, T111, L111, X111, hQ111, st111⟩ := own_cV X109 hx hZ hown hml (cw29 hw) (rm39_0 l Z a0 hw b73_0 T86.heap n0 OL86 fc112) ec109 fc100 300 #[iv p1, iv p2, iv p3, iv p4, iv p5, rv b1, rv b3, rv b5, rv b16, rv b27, rv v1, rv b66_0, rv b67, rv b72_0, rv b73_0] [] [] 0 rfl (hb hby at_300) (by decide)
      obtain ⟨rfl, Nq111, ec111⟩ := hQ111
      have N111 := Fr.app N109 Nq111
      have fc114 := ((u73_7.keep K80 (ninS (Ne.symm nz96) nin0)).keep K86 (ninS (Ne.symm nz98) nin0))
      obtain ⟨_, T113, L113, X113, hQ113, st113⟩ := own_cV X111 hx hZ hown hml (cw30 hw) (rm40_0 l Z a0 hw b73_0 w_EMPTY_LIST T86.heap n0 OL86 fc114) ec111 fc100 308 #[iv p1, iv p2, iv p3, iv p4, iv p5, rv b1, rv b3, rv b5, rv b16, rv b27, rv v1, rv b66_0, rv b67, rv b72_0, rv b73_0] [] [] 0 rfl (hb hby at_308) (by decide)
      obtain ⟨rfl, Nq113, ec113⟩ := hQ113
      have N113 := Fr.app N111 Nq113
      obtain ⟨_, T115, L115, X115, hQ115, st115⟩ := own_cS X113 hx hZ hown hml (cw32 hw) (rm41_0 l Z a0 hw w_EMPTY_LIST p5 b1 b3 w_EMPTY_LIST__elements k_w_EMPTY_LIST__elements T86.heap n0 OL86 hf71 pr49 pr50 pr51) ec113 317 #[iv p1, iv p2, iv p3, iv p4, iv p5, rv b1, rv b3, rv b5, rv b16, rv b27, rv v1, rv b66_0, rv b67, rv b72_0, rv b73_0] [(.ref w_EMPTY_LIST), (.int p5), (.ref b1), (.ref b3)] [] 0 rfl (hb hby at_317) (by decide)
      obtain ⟨rfl, Nq115, ec115⟩ := hQ115
      have N115 := Fr.app N113 Nq115
      have nz117 := nl u68_5.lt u72_0
      have fc118 := ((((u68_5.keep K72 nin0).keep K73 nin0).keep K80 (ninS nz117 nin0)).keep K86 (ninS (Ne.symm nz87) nin0))
      have fc119 := (((fc79.keep K73).keep K80).keep K86)
      obtain ⟨_, T116, L116, X116, hQ116, st116⟩ := own_cV X115 hx hZ hown hml (cw30 hw) (rm40_0 l Z a0 hw b67 w_EMPTY_LIST T86.heap n0 OL86 fc118) ec115 fc119 325 #[iv p1, iv p2, iv p3, iv p4, iv p5, rv b1, rv b3, rv b5, rv b16, rv b27, rv v1, rv b66_0, rv b67, rv b72_0, rv b73_0] [] [] 0 rfl (hb hby at_325) (by decide)
      obtain ⟨rfl, Nq116, ec116⟩ := hQ116
      have N116 := Fr.app N115 Nq116
      obtain ⟨_, T120, L120, X120, hQ120, st120⟩ := own_cS X116 hx hZ hown hml (cw32 hw) (rm41_0 l Z a0 hw w_EMPTY_LIST p4 b1 b3 w_EMPTY_LIST__elements k_w_EMPTY_LIST__elements T86.heap n0 OL86 hf65 pr49 pr50 pr51) ec116 333 #[iv p1, iv p2, iv p3, iv p4, iv p5, rv b1, rv b3, rv b5, rv b16, rv b27, rv v1, rv b66_0, rv b67, rv b72_0, rv b73_0] [(.ref w_EMPTY_LIST), (.int p4), (.ref b1), (.ref b3)] [] 0 rfl (hb hby at_333) (by decide)
      obtain ⟨rfl, Nq120, ec120⟩ := hQ120
      have N120 := Fr.app N116 Nq120
      obtain ⟨fs, hr, hrun, hended, hW, hsame⟩ := X120.leave (v := some (.int (1 : Int32))) (fun h => by rw [Bd.returns] at h; cases h)
      refine ⟨_, _, pre71 _ ?_, hrun, hended, _, _, rfl, ⟨rfl, N120⟩, ⟨_, rfl⟩, hW, hsame.mono (by decide) (by decide)⟩
      refine st72 _ ?_
      show SS p e below T72 m 227 #[iv p1, iv p2, iv p3, iv p4, iv p5, rv b1, rv b3, rv b5, rv b16, rv b27, rv v1, rv b66_0, rv b67, uu, uu] [(.ref b72_0)] _
      refine XS.astore X72.here hx rfl (hb hby at_227) rfl rfl (l' := #[iv p1, iv p2, iv p3, iv p4, iv p5, rv b1, rv b3, rv b5, rv b16, rv b27, rv v1, rv b66_0, rv b67, rv b72_0, uu]) rfl ?_
      refine XS.aload X72.here hx rfl (hb hby at_229) rfl rfl ?_
      refine XS.aload X72.here hx rfl (hb hby at_231) rfl rfl ?_
      refine st73 _ ?_
      refine XS.astore X73.here hx rfl (hb hby at_236) rfl rfl (l' := #[iv p1, iv p2, iv p3, iv p4, iv p5, rv b1, rv b3, rv b5, rv b16, rv b27, rv v1, rv b66_0, rv b67, rv b72_0, rv b73_0]) rfl ?_
      refine XS.aload X73.here hx rfl (hb hby at_238) rfl rfl ?_
      refine XS.aload X73.here hx rfl (hb hby at_240) rfl rfl ?_
      refine st80 _ ?_
      refine XS.pop X80.here hx rfl (hb hby at_245) rfl rfl ?_
      refine XS.aload X80.here hx rfl (hb hby at_246) rfl rfl ?_
      show SS p e below T80 m 248 #[iv p1, iv p2, iv p3, iv p4, iv p5, rv b1, rv b3, rv b5, rv b16, rv b27, rv v1, rv b66_0, rv b67, rv b72_0, rv b73_0] [(.ref b66_0)] _
      refine XS.aload X80.here hx rfl (hb hby at_248) rfl rfl ?_
      refine st86 _ ?_
      refine XS.pop X86.here hx rfl (hb hby at_253) rfl rfl ?_
      refine XS.aload X86.here hx rfl (hb hby at_254) rfl rfl ?_
      refine st95 _ ?_
      refine XS.aload X95.here hx rfl (hb hby at_259) rfl rfl ?_
      refine st101 _ ?_
      refine XS.ifNo X101.here hx rfl (hb hby at_264) rfl ((if0 _ _).trans (feq (by decide : ¬ ((1 : Int32) = (0 : Int32)))).1) ?_
      refine XS.aload X101.here hx rfl (hb hby at_267) rfl rfl ?_
      refine st103 _ ?_
      show SS p e below T103 m 272 #[iv p1, iv p2, iv p3, iv p4, iv p5, rv b1, rv b3, rv b5, rv b16, rv b27, rv v1, rv b66_0, rv b67, rv b72_0, rv b73_0] [(.ref b16)] _
      refine XS.aload X103.here hx rfl (hb hby at_272) rfl rfl ?_
      refine st105 _ ?_
      refine XS.ifNo X105.here hx rfl (hb hby at_277) rfl ((if0 _ _).trans (feq (by decide : ¬ ((1 : Int32) = (0 : Int32)))).1) ?_
      refine XS.aload X105.here hx rfl (hb hby at_280) rfl rfl ?_
      refine st107 _ ?_
      refine XS.aload X107.here hx rfl (hb hby at_285) rfl rfl ?_
      refine Jvm.RoadKit.acmp (g := (mkF m 287 #[iv p1, iv p2, iv p3, iv p4, iv p5, rv b1, rv b3, rv b5, rv b16, rv b27, rv v1, rv b66_0, rv b67, rv b72_0, rv b73_0] [(.ref v1), (.ref v1)])) X107 hx rfl rfl rfl (pc0 := 287) (pc' := 290) (same := true) rfl (hb hby at_287) rfl (decide_eq_true rfl) (by decide) (by decide) ?_
      refine XS.aload X107.here hx rfl (hb hby at_290) rfl rfl ?_
      refine st109 _ ?_
      refine XS.ifnonnullNo X109.here hx rfl (hb hby at_295) rfl ?_
      show SS p e below T109 m 298 #[iv p1, iv p2, iv p3, iv p4, iv p5, rv b1, rv b3, rv b5, rv b16, rv b27, rv v1, rv b66_0, rv b67, rv b72_0, rv b73_0] [] _
      refine XS.aload X109.here hx rfl (hb hby at_298) rfl rfl ?_
      refine st111 _ ?_
      refine XS.ifnonnullNo X111.here hx rfl (hb hby at_303) rfl ?_
      refine XS.aload X111.here hx rfl (hb hby at_306) rfl rfl ?_
      refine st113 _ ?_
      refine XS.iload X113.here hx rfl (hb hby at_311) rfl ?_
      refine XS.aload X113.here hx rfl (hb hby at_313) rfl rfl ?_
      refine XS.aload X113.here hx rfl (hb hby at_315) rfl rfl ?_
      refine st115 _ ?_
      refine XS.ifNo X115.here hx rfl (hb hby at_320) rfl ((if0 _ _).trans (feq (by decide : ¬ ((1 : Int32) = (0 : Int32)))).1) ?_
      show SS p e below T115 m 323 #[iv p1, iv p2, iv p3, iv p4, iv p5, rv b1, rv b3, rv b5, rv b16, rv b27, rv v1, rv b66_0, rv b67, rv b72_0, rv b73_0] [] _
      refine XS.aload X115.here hx rfl (hb hby at_323) rfl rfl ?_
      refine st116 _ ?_
      refine XS.iloadN X116.here hx rfl (hb hby at_328) rfl ?_
      refine XS.aload X116.here hx rfl (hb hby at_329) rfl rfl ?_
      refine XS.aload X116.here hx rfl (hb hby at_331) rfl rfl ?_
      refine st120 _ ?_
      refine XS.ifNo X120.here hx rfl (hb hby at_336) rfl ((if0 _ _).trans (feq (by decide : ¬ ((1 : Int32) = (0 : Int32)))).1) ?_
      refine XS.iconst X120.here hx rfl (hb hby at_339) ?_
      refine XS.goto X120.here hx rfl (pc0 := 340) (pc' := 344) rfl (hb hby at_340) (by decide) (by decide) ?_
      show SS p e below T120 m 344 #[iv p1, iv p2, iv p3, iv p4, iv p5, rv b1, rv b3, rv b5, rv b16, rv b27, rv v1, rv b66_0, rv b67, rv b72_0, rv b73_0] [(.int (1 : Int32))] _
      exact retN X120 hx (t := .boolean) Bd.returns (by simp) (hb hby at_344) hr
    · obtain ⟨x121, hx121⟩ : ∃ w, (if (((p5.toUInt32 >>> ((2 : Int32) &&& 31).toUInt32).toInt32) &&& (1 : Int32)) = (0 : Int32) then b1 else b3) = w := ⟨_, rfl⟩
      have fc122 := (((((((((((((((((((((((((((((A1.keep K2).ext E3).keep K4).ext E5).ext E6).wr W8).wr W10).keep K11).ext E16).ext E17).wr W19).wr W21).keep K22).ext E27).wr W30).wr W33).wr W36).wr W39).wr W42).wr W45).wr W48).wr W51).wr W54).wr W57).wr W60).wr W63).keep K66).ext E67).keep K68)
      have fc123 := (((((((((((((((((((((((((((A3.keep K4).ext E5).ext E6).wr W8).wr W10).keep K11).ext E16).ext E17).wr W19).wr W21).keep K22).ext E27).wr W30).wr W33).wr W36).wr W39).wr W42).wr W45).wr W48).wr W51).wr W54).wr W57).wr W60).wr W63).keep K66).ext E67).keep K68)
      have Ex121 := own_iteE hx121 fc122 fc123
      obtain ⟨_, T124, L124, X124, hQ124, st124⟩ := own_cS X68 hx hZ hown hml (cw10 hw) (rm9_1 l Z a0 hw p5 b1 b3 w_DEFAULTCAPACITY_EMPTY_ELEMENTDATA x121 k_w_DEFAULTCAPACITY_EMPTY_ELEMENTDATA T68.heap n0 OL68 hf71 pr46 hx121 pr48 Ex121) rfl 224 #[iv p1, iv p2, iv p3, iv p4, iv p5, rv b1, rv b3, rv b5, rv b16, rv b27, rv v1, rv b66_0, rv b67, uu, uu] [(.int p5), (.ref b1), (.ref b3)] [] 0 rfl (hb hby at_224) (by decide)
      obtain ⟨b124_0, b124_1, kx124_0, rfl, Nq124, K124, u124_0, u124_1, u124_2, u124_3, u124_4, u124_5, u124_6, u124_7, u124_8, u124_9⟩ := hQ124
      have OL124 := OL68.keep K124 all0
      have g_b124_0 : n0 ≤ b124_0 := Nat.le_trans (Nat.le_trans (Nat.le_of_eq OL68.1.symm) OL68.2.1) u124_0
      have g_b124_1 : n0 ≤ b124_1 := Nat.le_trans (Nat.le_trans (Nat.le_of_eq OL68.1.symm) OL68.2.1) u124_1
      have N124 := Fr.app N68 Nq124
      have fc126 := (u68_0.keep K124 nin0)
      have fc127 := (u68_1.keep K124 nin0)
      have fc128 := (u68_2.keep K124 nin0)
      have fc129 := (u68_3.keep K124 nin0)
      have fc130 := (u68_4.keep K124 nin0)
      have fc131 := (Ex121.keep K124)
      have fc132 := ((A67.keep K68).keep K124)
      obtain ⟨_, T125, L125, X125, hQ125, st125⟩ := own_cV X124 hx hZ hown hml (cw18 hw) (rm32_1 l Z a0 hw b67 b124_0 b5 b16 v1 b124_1 mir_objs x121 kx124_0 w_EMPTY T124.heap n0 OL124 fc126 fc127 fc128 fc129 fc130 u124_3 u124_6 u124_5 pr52 u124_9 u124_7 fc131 pr53) rfl fc132 233 #[iv p1, iv p2, iv p3, iv p4, iv p5, rv b1, rv b3, rv b5, rv b16, rv b27, rv v1, rv b66_0, rv b67, rv b124_0, uu] [(.ref b124_0)] [] 0 rfl (hb hby at_233) (by decide)
      obtain ⟨b125_0, b125_1, rfl, Nq125, K125, u125_0, u125_1, u125_2, u125_3, u125_4, u125_5, u125_6, u125_7, u125_8, u125_9, u125_10, u125_11, u125_12⟩ := hQ125
      have OL125 := OL124.keep K125 all0
      have N125 := Fr.app N124 Nq125
      have fc134 := (u124_4.keep K125 nin0)
      have fc135 := (u124_3.keep K125)
      have fc136 := (u124_5.keep K125 nin0)
      have fc137 := (u124_6.keep K125 nin0)
      have fc138 := (u124_7.keep K125 nin0)
      have fc139 := ((fc122.keep K124).keep K125)
      obtain ⟨_, T133, L133, X133, hQ133, st133⟩ := own_cV X125 hx hZ hown hml (cw23 hw) (rm14_1 l Z a0 hw b124_0 b1 b124_1 x121 kx124_0 T125.heap n0 OL125 fc134 fc135 g_b124_0 fc136 fc137 fc138 (Ne.symm u124_2) g_b124_1 u124_8 fc139 u124_2) rfl fc135 242 #[iv p1, iv p2, iv p3, iv p4, iv p5, rv b1, rv b3, rv b5, rv b16, rv b27, rv v1, rv b66_0, rv b67, rv b124_0, rv b125_0] [(.ref b1)] [] 0 rfl (hb hby at_242) (by decide)
      obtain ⟨rfl, Nq133, K133, u133_0, u133_1, u133_2, u133_3⟩ := hQ133
      have OL133 := OL125.keep K133 (allS g_b124_0 (allS g_b124_1 all0))
      have N133 := Fr.app N125 Nq133
      have nz141 := (nl u66_4.lt (Nat.le_of_eq g67.symm))
      have lz142 := (lq fc70.lt K68.1)
      have nz143 := nl lz142 u124_1
      have nz144 := nl lz142 u124_0
      have fc145 := (((((u66_2.ext E67).keep K68 (ninS nz141 nin0)).keep K124 nin0).keep K125 nin0).keep K133 (ninS nz144 (ninS nz143 nin0)))
      have fc146 := ((((fc69.keep K68).keep K124).keep K125).keep K133)
      have fc147 := (((((u66_3.ext E67).keep K68 (ninS nz141 nin0)).keep K124 nin0).keep K125 nin0).keep K133 (ninS nz144 (ninS nz143 nin0)))
      have fc148 := ((((fc70.keep K68 (ninS nz141 nin0)).keep K124 nin0).keep K125 nin0).keep K133 (ninS nz144 (ninS nz143 nin0)))
      have fc149 := (((fc123.keep K124).keep K125).keep K133)
      obtain ⟨_, T140, L140, X140, hQ140, st140⟩ := own_cV X133 hx hZ hown hml (cw23 hw) (rm14_0 l Z a0 hw b66_0 b3 w_DEFAULTCAPACITY_EMPTY_ELEMENTDATA k_w_DEFAULTCAPACITY_EMPTY_ELEMENTDATA T133.heap n0 OL133 fc145 fc146 g_b66_0 fc147 fc148 pr48 pr46 fc149) rfl fc146 250 #[iv p1, iv p2, iv p3, iv p4, iv p5, rv b1, rv b3, rv b5, rv b16, rv b27, rv v1, rv b66_0, rv b67, rv b124_0, rv b125_0] [(.ref b3)] [] 0 rfl (hb hby at_250) (by decide)
      obtain ⟨b140_0, kx140_0, rfl, Nq140, K140, u140_0, u140_1, u140_2, u140_3, u140_4, u140_5, u140_6⟩ := hQ140
      have OL140 := OL133.keep K140 (allS g_b66_0 all0)
      have N140 := Fr.app N133 Nq140
      have nz151 := nl u124_9.lt u125_0
      have nz152 := nl u124_6.lt u125_0
      have lz153 := (lq lz142 K124.1)
      have nz154 := nl lz153 u125_0
      have fc155 := ((u125_4.keep K133 (ninS (Ne.symm nz152) (ninS (Ne.symm nz151) nin0))).keep K140 (ninS (Ne.symm nz154) nin0))
      have fc156 := ((u125_3.keep K133).keep K140)
      obtain ⟨_, T150, L150, X150, hQ150, st150⟩ := own_cV X140 hx hZ hown hml (cw24 hw) (rm34_0 l Z a0 hw b125_0 b5 T140.heap n0 OL140 fc155) rfl fc156 256 #[iv p1, iv p2, iv p3, iv p4, iv p5, rv b1, rv b3, rv b5, rv b16, rv b27, rv v1, rv b66_0, rv b67, rv b124_0, rv b125_0] [] [] 0 rfl (hb hby at_256) (by decide)
      obtain ⟨rfl, Nq150, ec150⟩ := hQ150
      have N150 := Fr.app N140 Nq150
      have fc158 := ((((((((((((((((((((((((((fc12.keep K11).ext E16).ext E17).wr W19).wr W21).keep K22).ext E27).wr W30).wr W33).wr W36).wr W39).wr W42).wr W45).wr W48).wr W51).wr W54).wr W57).wr W60).wr W63).keep K66).ext E67).keep K68).keep K124).keep K125).keep K133).keep K140)
      obtain ⟨_, T157, L157, X157, hQ157, st157⟩ := own_cV X150 hx hZ hown hml (cw25 hw) (rm35_0 l Z a0 hw b5 T140.heap n0 OL140 ) ec150 fc158 261 #[iv p1, iv p2, iv p3, iv p4, iv p5, rv b1, rv b3, rv b5, rv b16, rv b27, rv v1, rv b66_0, rv b67, rv b124_0, rv b125_0] [(.ref b5)] [] 0 rfl (hb hby at_261) (by decide)
      obtain ⟨rfl, Nq157, ec157⟩ := hQ157
      have N157 := Fr.app N150 Nq157
      have fc160 := ((u125_5.keep K133 (ninS (Ne.symm nz152) (ninS (Ne.symm nz151) nin0))).keep K140 (ninS (Ne.symm nz154) nin0))
      obtain ⟨_, T159, L159, X159, hQ159, st159⟩ := own_cV X157 hx hZ hown hml (cw26 hw) (rm36_0 l Z a0 hw b125_0 b16 T140.heap n0 OL140 fc160) ec157 fc156 269 #[iv p1, iv p2, iv p3, iv p4, iv p5, rv b1, rv b3, rv b5, rv b16, rv b27, rv v1, rv b66_0, rv b67, rv b124_0, rv b125_0] [] [] 0 rfl (hb hby at_269) (by decide)
      obtain ⟨rfl, Nq159, ec159⟩ := hQ159
      have N159 := Fr.app N157 Nq159
      have fc162 := (((((((((((((((((((((fc23.keep K22).ext E27).wr W30).wr W33).wr W36).wr W39).wr W42).wr W45).wr W48).wr W51).wr W54).wr W57).wr W60).wr W63).keep K66).ext E67).keep K68).keep K124).keep K125).keep K133).keep K140)
      obtain ⟨_, T161, L161, X161, hQ161, st161⟩ := own_cV X159 hx hZ hown hml (cw25 hw) (rm35_0 l Z a0 hw b16 T140.heap n0 OL140 ) ec159 fc162 274 #[iv p1, iv p2, iv p3, iv p4, iv p5, rv b1, rv b3, rv b5, rv b16, rv b27, rv v1, rv b66_0, rv b67, rv b124_0, rv b125_0] [(.ref b16)] [] 0 rfl (hb hby at_274) (by decide)
      obtain ⟨rfl, Nq161, ec161⟩ := hQ161
      have N161 := Fr.app N159 Nq161
      have fc164 := ((u125_6.keep K133 (ninS (Ne.symm nz152) (ninS (Ne.symm nz151) nin0))).keep K140 (ninS (Ne.symm nz154) nin0))
      obtain ⟨_, T163, L163, X163, hQ163, st163⟩ := own_cV X161 hx hZ hown hml (cw27 hw) (rm37_0 l Z a0 hw b125_0 v1 T140.heap n0 OL140 fc164) ec161 fc156 282 #[iv p1, iv p2, iv p3, iv p4, iv p5, rv b1, rv b3, rv b5, rv b16, rv b27, rv v1, rv b66_0, rv b67, rv b124_0, rv b125_0] [] [] 0 rfl (hb hby at_282) (by decide)
      obtain ⟨rfl, Nq163, ec163⟩ := hQ163
      have N163 := Fr.app N161 Nq163
      have fc166 := ((u125_7.keep K133 (ninS (Ne.symm nz152) (ninS (Ne.symm nz151) nin0))).keep K140 (ninS (Ne.symm nz154) nin0))
      obtain ⟨_, T165, L165, X165, hQ165, st165⟩ := own_cV X163 hx hZ hown hml (cw28 hw) (rm38_0 l Z a0 hw b125_0 T140.heap n0 OL140 fc166) ec163 fc156 292 #[iv p1, iv p2, iv p3, iv p4, iv p5, rv b1, rv b3, rv b5, rv b16, rv b27, rv v1, rv b66_0, rv b67, rv b124_0, rv b125_0] [] [] 0 rfl (hb hby at_292) (by decide)
      obtain ⟨rfl, Nq165, ec165⟩ := hQ165
      have N165 := Fr.app N163 Nq165
      have fc168 := ((u125_8.keep K133 (ninS (Ne.symm nz152) (ninS (Ne.symm nz151) nin0))).keep K140 (ninS (Ne.symm nz154) nin0))
      obtain ⟨_, T167, L167, X167, hQ167, st167⟩ := own_cV X165 hx hZ hown hml (cw29 hw) (rm39_0 l Z a0 hw b125_0 T140.heap n0 OL140 fc168) ec165 fc156 300 #[iv p1, iv p2, iv p3, iv p4, iv p5, rv b1, rv b3, rv b5, rv b16, rv b27, rv v1, rv b66_0, rv b67, rv b124_0, rv b125_0] [] [] 0 rfl (hb hby at_300) (by decide)
      obtain ⟨rfl, Nq167, ec167⟩ := hQ167
      have N167 := Fr.app N165 Nq167
      have fc170 := ((u125_9.keep K133 (ninS (Ne.symm nz152) (ninS (Ne.symm nz151) nin0))).keep K140 (ninS (Ne.symm nz154) nin0))
      obtain ⟨_, T169, L169, X169, hQ169, st169⟩ := own_cV X167 hx hZ hown hml (cw30 hw) (rm40_1 l Z a0 hw b125_0 b125_1 T140.heap n0 OL140 fc170) ec167 fc156 308 #[iv p1, iv p2, iv p3, iv p4, iv p5, rv b1, rv b3, rv b5, rv b16, rv b27, rv v1, rv b66_0, rv b67, rv b124_0, rv b125_0] [] [] 0 rfl (hb hby at_308) (by decide)
      obtain ⟨rfl, Nq169, ec169⟩ := hQ169
      have N169 := Fr.app N167 Nq169
      have nz172 := nl u124_9.lt u125_1
      have nz173 := nl u124_6.lt u125_1
      have nz174 := nl lz153 u125_1
      have fc175 := ((u125_12.keep K133 (ninS (Ne.symm nz173) (ninS (Ne.symm nz172) nin0))).keep K140 (ninS (Ne.symm nz174) nin0))
      have fc176 := ((u125_10.keep K133).keep K140)
      have fc177 := ((u125_11.keep K133 (ninS (Ne.symm nz173) (ninS (Ne.symm nz172) nin0))).keep K140 (ninS (Ne.symm nz174) nin0))
      obtain ⟨_, T171, L171, X171, hQ171, st171⟩ := own_cS X169 hx hZ hown hml (cw32 hw) (rm41_1 l Z a0 hw b125_1 p5 b1 b3 w_EMPTY x121 T140.heap n0 OL140 hf71 fc175 pr53 fc176 fc177 hx121) ec169 317 #[iv p1, iv p2, iv p3, iv p4, iv p5, rv b1, rv b3, rv b5, rv b16, rv b27, rv v1, rv b66_0, rv b67, rv b124_0, rv b125_0] [(.ref b125_1), (.int p5), (.ref b1), (.ref b3)] [] 0 rfl (hb hby at_317) (by decide)
      obtain ⟨rfl, Nq171, ec171⟩ := hQ171
      have N171 := Fr.app N169 Nq171
      have nz179 := nl u68_5.lt u124_1
      have nz180 := nl u68_5.lt u124_0
      have fc181 := ((((u68_5.keep K124 nin0).keep K125 nin0).keep K133 (ninS nz180 (ninS nz179 nin0))).keep K140 (ninS (Ne.symm nz141) nin0))
      have fc182 := (((fc132.keep K125).keep K133).keep K140)
      obtain ⟨_, T178, L178, X178, hQ178, st178⟩ := own_cV X171 hx hZ hown hml (cw30 hw) (rm40_0 l Z a0 hw b67 w_EMPTY_LIST T140.heap n0 OL140 fc181) ec171 fc182 325 #[iv p1, iv p2, iv p3, iv p4, iv p5, rv b1, rv b3, rv b5, rv b16, rv b27, rv v1, rv b66_0, rv b67, rv b124_0, rv b125_0] [] [] 0 rfl (hb hby at_325) (by decide)
      obtain ⟨rfl, Nq178, ec178⟩ := hQ178
      have N178 := Fr.app N171 Nq178
      obtain ⟨_, T183, L183, X183, hQ183, st183⟩ := own_cS X178 hx hZ hown hml (cw32 hw) (rm41_0 l Z a0 hw w_EMPTY_LIST p4 b1 b3 w_EMPTY_LIST__elements k_w_EMPTY_LIST__elements T140.heap n0 OL140 hf65 pr49 pr50 pr51) ec178 333 #[iv p1, iv p2, iv p3, iv p4, iv p5, rv b1, rv b3, rv b5, rv b16, rv b27, rv v1, rv b66_0, rv b67, rv b124_0, rv b125_0] [(.ref w_EMPTY_LIST), (.int p4), (.ref b1), (.ref b3)] [] 0 rfl (hb hby at_333) (by decide)
      obtain ⟨rfl, Nq183, ec183⟩ := hQ183
      have N183 := Fr.app N178 Nq183
      obtain ⟨fs, hr, hrun, hended, hW, hsame⟩ := X183.leave (v := some (.int (1 : Int32))) (fun h => by rw [Bd.returns] at h; cases h)
      refine ⟨_, _, pre71 _ ?_, hrun, hended, _, _, rfl, ⟨rfl, N183⟩, ⟨_, rfl⟩, hW, hsame.mono (by decide) (by decide)⟩
      refine st124 _ ?_
      show SS p e below T124 m 227 #[iv p1, iv p2, iv p3, iv p4, iv p5, rv b1, rv b3, rv b5, rv b16, rv b27, rv v1, rv b66_0, rv b67, uu, uu] [(.ref b124_0)] _
      refine XS.astore X124.here hx rfl (hb hby at_227) rfl rfl (l' := #[iv p1, iv p2, iv p3, iv p4, iv p5, rv b1, rv b3, rv b5, rv b16, rv b27, rv v1, rv b66_0, rv b67, rv b124_0, uu]) rfl ?_
      refine XS.aload X124.here hx rfl (hb hby at_229) rfl rfl ?_
      refine XS.aload X124.here hx rfl (hb hby at_231) rfl rfl ?_
      refine st125 _ ?_
      refine XS.astore X125.here hx rfl (hb hby at_236) rfl rfl (l' := #[iv p1, iv p2, iv p3, iv p4, iv p5, rv b1, rv b3, rv b5, rv b16, rv b27, rv v1, rv b66_0, rv b67, rv b124_0, rv b125_0]) rfl ?_
      refine XS.aload X125.here hx rfl (hb hby at_238) rfl rfl ?_
      refine XS.aload X125.here hx rfl (hb hby at_240) rfl rfl ?_
      refine st133 _ ?_
      refine XS.pop X133.here hx rfl (hb hby at_245) rfl rfl ?_
      refine XS.aload X133.here hx rfl (hb hby at_246) rfl rfl ?_
      show SS p e below T133 m 248 #[iv p1, iv p2, iv p3, iv p4, iv p5, rv b1, rv b3, rv b5, rv b16, rv b27, rv v1, rv b66_0, rv b67, rv b124_0, rv b125_0] [(.ref b66_0)] _
      refine XS.aload X133.here hx rfl (hb hby at_248) rfl rfl ?_
      refine st140 _ ?_
      refine XS.pop X140.here hx rfl (hb hby at_253) rfl rfl ?_
      refine XS.aload X140.here hx rfl (hb hby at_254) rfl rfl ?_
      refine st150 _ ?_
      refine XS.aload X150.here hx rfl (hb hby at_259) rfl rfl ?_
      refine st157 _ ?_
      refine XS.ifNo X157.here hx rfl (hb hby at_264) rfl ((if0 _ _).trans (feq (by decide : ¬ ((1 : Int32) = (0 : Int32)))).1) ?_
      refine XS.aload X157.here hx rfl (hb hby at_267) rfl rfl ?_
      refine st159 _ ?_
      show SS p e below T159 m 272 #[iv p1, iv p2, iv p3, iv p4, iv p5, rv b1, rv b3, rv b5, rv b16, rv b27, rv v1, rv b66_0, rv b67, rv b124_0, rv b125_0] [(.ref b16)] _
      refine XS.aload X159.here hx rfl (hb hby at_272) rfl rfl ?_
      refine st161 _ ?_
      refine XS.ifNo X161.here hx rfl (hb hby at_277) rfl ((if0 _ _).trans (feq (by decide : ¬ ((1 : Int32) = (0 : Int32)))).1) ?_
      refine XS.aload X161.here hx rfl (hb hby at_280) rfl rfl ?_
      refine st163 _ ?_
      refine XS.aload X163.here hx rfl (hb hby at_285) rfl rfl ?_
      refine Jvm.RoadKit.acmp (g := (mkF m 287 #[iv p1, iv p2, iv p3, iv p4, iv p5, rv b1, rv b3, rv b5, rv b16, rv b27, rv v1, rv b66_0, rv b67, rv b124_0, rv b125_0] [(.ref v1), (.ref v1)])) X163 hx rfl rfl rfl (pc0 := 287) (pc' := 290) (same := true) rfl (hb hby at_287) rfl (decide_eq_true rfl) (by decide) (by decide) ?_
      refine XS.aload X163.here hx rfl (hb hby at_290) rfl rfl ?_
      refine st165 _ ?_
      refine XS.ifnonnullNo X165.here hx rfl (hb hby at_295) rfl ?_
      show SS p e below T165 m 298 #[iv p1, iv p2, iv p3, iv p4, iv p5, rv b1, rv b3, rv b5, rv b16, rv b27, rv v1, rv b66_0, rv b67, rv b124_0, rv b125_0] [] _
      refine XS.aload X165.here hx rfl (hb hby at_298) rfl rfl ?_
      refine st167 _ ?_
      refine XS.ifnonnullNo X167.here hx rfl (hb hby at_303) rfl ?_
      refine XS.aload X167.here hx rfl (hb hby at_306) rfl rfl ?_
      refine st169 _ ?_
      refine XS.iload X169.here hx rfl (hb hby at_311) rfl ?_
      refine XS.aload X169.here hx rfl (hb hby at_313) rfl rfl ?_
      refine XS.aload X169.here hx rfl (hb hby at_315) rfl rfl ?_
      refine st171 _ ?_
      refine XS.ifNo X171.here hx rfl (hb hby at_320) rfl ((if0 _ _).trans (feq (by decide : ¬ ((1 : Int32) = (0 : Int32)))).1) ?_
      show SS p e below T171 m 323 #[iv p1, iv p2, iv p3, iv p4, iv p5, rv b1, rv b3, rv b5, rv b16, rv b27, rv v1, rv b66_0, rv b67, rv b124_0, rv b125_0] [] _
      refine XS.aload X171.here hx rfl (hb hby at_323) rfl rfl ?_
      refine st178 _ ?_
      refine XS.iloadN X178.here hx rfl (hb hby at_328) rfl ?_
      refine XS.aload X178.here hx rfl (hb hby at_329) rfl rfl ?_
      refine XS.aload X178.here hx rfl (hb hby at_331) rfl rfl ?_
      refine st183 _ ?_
      refine XS.ifNo X183.here hx rfl (hb hby at_336) rfl ((if0 _ _).trans (feq (by decide : ¬ ((1 : Int32) = (0 : Int32)))).1) ?_
      refine XS.iconst X183.here hx rfl (hb hby at_339) ?_
      refine XS.goto X183.here hx rfl (pc0 := 340) (pc' := 344) rfl (hb hby at_340) (by decide) (by decide) ?_
      show SS p e below T183 m 344 #[iv p1, iv p2, iv p3, iv p4, iv p5, rv b1, rv b3, rv b5, rv b16, rv b27, rv v1, rv b66_0, rv b67, rv b124_0, rv b125_0] [(.int (1 : Int32))] _
      exact retN X183 hx (t := .boolean) Bd.returns (by simp) (hb hby at_344) hr
    · obtain ⟨x184, hx184⟩ : ∃ w, (if (((p5.toUInt32 >>> ((2 : Int32) &&& 31).toUInt32).toInt32) &&& (1 : Int32)) = (0 : Int32) then b1 else b3) = w := ⟨_, rfl⟩
      have fc185 := (((((((((((((((((((((((((((((A1.keep K2).ext E3).keep K4).ext E5).ext E6).wr W8).wr W10).keep K11).ext E16).ext E17).wr W19).wr W21).keep K22).ext E27).wr W30).wr W33).wr W36).wr W39).wr W42).wr W45).wr W48).wr W51).wr W54).wr W57).wr W60).wr W63).keep K66).ext E67).keep K68)
      have fc186 := (((((((((((((((((((((((((((A3.keep K4).ext E5).ext E6).wr W8).wr W10).keep K11).ext E16).ext E17).wr W19).wr W21).keep K22).ext E27).wr W30).wr W33).wr W36).wr W39).wr W42).wr W45).wr W48).wr W51).wr W54).wr W57).wr W60).wr W63).keep K66).ext E67).keep K68)
      have Ex184 := own_iteE hx184 fc185 fc186
      obtain ⟨x187, hx187⟩ : ∃ w, (if (((p5.toUInt32 >>> ((3 : Int32) &&& 31).toUInt32).toInt32) &&& (1 : Int32)) = (0 : Int32) then b1 else b3) = w := ⟨_, rfl⟩
      have Ex187 := own_iteE hx187 fc185 fc186
      have Gx187 := own_iteG hx187 g_b1 g_b3
      obtain ⟨_, T188, L188, X188, hQ188, st188⟩ := own_cS X68 hx hZ hown hml (cw10 hw) (rm9_2 l Z a0 hw p5 b1 b3 w_DEFAULTCAPACITY_EMPTY_ELEMENTDATA x184 k_w_DEFAULTCAPACITY_EMPTY_ELEMENTDATA x187 T68.heap n0 OL68 hf71 pr46 hx184 pr48 Ex184 hx187 Ex187) rfl 224 #[iv p1, iv p2, iv p3, iv p4, iv p5, rv b1, rv b3, rv b5, rv b16, rv b27, rv v1, rv b66_0, rv b67, uu, uu] [(.int p5), (.ref b1), (.ref b3)] [] 0 rfl (hb hby at_224) (by decide)
      obtain ⟨b188_0, b188_1, kx188_0, rfl, Nq188, K188, u188_0, u188_1, u188_2, u188_3, u188_4, u188_5, u188_6, u188_7, u188_8, u188_9⟩ := hQ188
      have OL188 := OL68.keep K188 all0
      have g_b188_0 : n0 ≤ b188_0 := Nat.le_trans (Nat.le_trans (Nat.le_of_eq OL68.1.symm) OL68.2.1) u188_0
      have g_b188_1 : n0 ≤ b188_1 := Nat.le_trans (Nat.le_trans (Nat.le_of_eq OL68.1.symm) OL68.2.1) u188_1
      have N188 := Fr.app N68 Nq188
      have fc190 := (u68_0.keep K188 nin0)
      have fc191 := (u68_1.keep K188 nin0)
      have fc192 := (u68_2.keep K188 nin0)
      have fc193 := (u68_3.keep K188 nin0)
      have fc194 := (u68_4.keep K188 nin0)
      have fc195 := (Ex187.keep K188)
      have fc196 := (Ex184.keep K188)
      have fc197 := ((A67.keep K68).keep K188)
      obtain ⟨_, T189, L189, X189, hQ189, st189⟩ := own_cV X188 hx hZ hown hml (cw18 hw) (rm32_2 l Z a0 hw b67 b188_0 b5 b16 v1 b188_1 mir_objs x184 x187 kx188_0 T188.heap n0 OL188 fc190 fc191 fc192 fc193 fc194 u188_3 u188_6 u188_5 pr52 u188_9 u188_7 fc195 fc196) rfl fc197 233 #[iv p1, iv p2, iv p3, iv p4, iv p5, rv b1, rv b3, rv b5, rv b16, rv b27, rv v1, rv b66_0, rv b67, rv b188_0, uu] [(.ref b188_0)] [] 0 rfl (hb hby at_233) (by decide)
      obtain ⟨b189_0, b189_1, rfl, Nq189, K189, u189_0, u189_1, u189_2, u189_3, u189_4, u189_5, u189_6, u189_7, u189_8, u189_9, u189_10, u189_11, u189_12⟩ := hQ189
      have OL189 := OL188.keep K189 all0
      have N189 := Fr.app N188 Nq189
      have fc199 := (u188_4.keep K189 nin0)
      have fc200 := (u188_3.keep K189)
      have fc201 := (u188_5.keep K189 nin0)
      have fc202 := (u188_6.keep K189 nin0)
      have fc203 := (u188_7.keep K189 nin0)
      have fc204 := ((fc185.keep K188).keep K189)
      obtain ⟨_, T198, L198, X198, hQ198, st198⟩ := own_cV X189 hx hZ hown hml (cw23 hw) (rm14_2 l Z a0 hw b188_0 b1 b188_1 x184 x187 kx188_0 T189.heap n0 OL189 fc199 fc200 g_b188_0 fc201 fc202 fc203 (Ne.symm u188_2) g_b188_1 u188_8 fc204 u188_2) rfl fc200 242 #[iv p1, iv p2, iv p3, iv p4, iv p5, rv b1, rv b3, rv b5, rv b16, rv b27, rv v1, rv b66_0, rv b67, rv b188_0, rv b189_0] [(.ref b1)] [] 0 rfl (hb hby at_242) (by decide)
      obtain ⟨rfl, Nq198, K198, u198_0, u198_1, u198_2, u198_3⟩ := hQ198
      have OL198 := OL189.keep K198 (allS g_b188_0 (allS g_b188_1 all0))
      have N198 := Fr.app N189 Nq198
      have nz206 := (nl u66_4.lt (Nat.le_of_eq g67.symm))
      have lz207 := (lq fc70.lt K68.1)
      have nz208 := nl lz207 u188_1
      have nz209 := nl lz207 u188_0
      have fc210 := (((((u66_2.ext E67).keep K68 (ninS nz206 nin0)).keep K188 nin0).keep K189 nin0).keep K198 (ninS nz209 (ninS nz208 nin0)))
      have fc211 := ((((fc69.keep K68).keep K188).keep K189).keep K198)
      have fc212 := (((((u66_3.ext E67).keep K68 (ninS nz206 nin0)).keep K188 nin0).keep K189 nin0).keep K198 (ninS nz209 (ninS nz208 nin0)))
      have fc213 := ((((fc70.keep K68 (ninS nz206 nin0)).keep K188 nin0).keep K189 nin0).keep K198 (ninS nz209 (ninS nz208 nin0)))
      have fc214 := (((fc186.keep K188).keep K189).keep K198)
      obtain ⟨_, T205, L205, X205, hQ205, st205⟩ := own_cV X198 hx hZ hown hml (cw23 hw) (rm14_0 l Z a0 hw b66_0 b3 w_DEFAULTCAPACITY_EMPTY_ELEMENTDATA k_w_DEFAULTCAPACITY_EMPTY_ELEMENTDATA T198.heap n0 OL198 fc210 fc211 g_b66_0 fc212 fc213 pr48 pr46 fc214) rfl fc211 250 #[iv p1, iv p2, iv p3, iv p4, iv p5, rv b1, rv b3, rv b5, rv b16, rv b27, rv v1, rv b66_0, rv b67, rv b188_0, rv b189_0] [(.ref b3)] [] 0 rfl (hb hby at_250) (by decide)
      obtain ⟨b205_0, kx205_0, rfl, Nq205, K205, u205_0, u205_1, u205_2, u205_3, u205_4, u205_5, u205_6⟩ := hQ205
      have OL205 := OL198.keep K205 (allS g_b66_0 all0)
      have N205 := Fr.app N198 Nq205
      have nz216 := nl u188_9.lt u189_0
      have nz217 := nl u188_6.lt u189_0
      have lz218 := (lq lz207 K188.1)
      have nz219 := nl lz218 u189_0
      have fc220 := ((u189_4.keep K198 (ninS (Ne.symm nz217) (ninS (Ne.symm nz216) nin0))).keep K205 (ninS (Ne.symm nz219) nin0))
      have fc221 := ((u189_3.keep K198).keep K205)
      obtain ⟨_, T215, L215, X215, hQ215, st215⟩ := own_cV X205 hx hZ hown hml (cw24 hw) (rm34_0 l Z a0 hw b189_0 b5 T205.heap n0 OL205 fc220) rfl fc221 256 #[iv p1, iv p2, iv p3, iv p4, iv p5, rv b1, rv b3, rv b5, rv b16, rv b27, rv v1, rv b66_0, rv b67, rv b188_0, rv b189_0] [] [] 0 rfl (hb hby at_256) (by decide)
      obtain ⟨rfl, Nq215, ec215⟩ := hQ215
      have N215 := Fr.app N205 Nq215
      have fc223 := ((((((((((((((((((((((((((fc12.keep K11).ext E16).ext E17).wr W19).wr W21).keep K22).ext E27).wr W30).wr W33).wr W36).wr W39).wr W42).wr W45).wr W48).wr W51).wr W54).wr W57).wr W60).wr W63).keep K66).ext E67).keep K68).keep K188).keep K189).keep K198).keep K205)
      obtain ⟨_, T222, L222, X222, hQ222, st222⟩ := own_cV X215 hx hZ hown hml (cw25 hw) (rm35_0 l Z a0 hw b5 T205.heap n0 OL205 ) ec215 fc223 261 #[iv p1, iv p2, iv p3, iv p4, iv p5, rv b1, rv b3, rv b5, rv b16, rv b27, rv v1, rv b66_0, rv b67, rv b188_0, rv b189_0] [(.ref b5)] [] 0 rfl (hb hby at_261) (by decide)
      obtain ⟨rfl, Nq222, ec222⟩ := hQ222
      have N222 := Fr.app N215 Nq222
      have fc225 := ((u189_5.keep K198 (ninS (Ne.symm nz217) (ninS (Ne.symm nz216) nin0))).keep K205 (ninS (Ne.symm nz219) nin0))
      obtain ⟨_, T224, L224, X224, hQ224, st224⟩ := own_cV X222 hx hZ hown hml (cw26 hw) (rm36_0 l Z a0 hw b189_0 b16 T205.heap n0 OL205 fc225) ec222 fc221 269 #[iv p1, iv p2, iv p3, iv p4, iv p5, rv b1, rv b3, rv b5, rv b16, rv b27, rv v1, rv b66_0, rv b67, rv b188_0, rv b189_0] [] [] 0 rfl (hb hby at_269) (by decide)
      obtain ⟨rfl, Nq224, ec224⟩ := hQ224
      have N224 := Fr.app N222 Nq224
      have fc227 := (((((((((((((((((((((fc23.keep K22).ext E27).wr W30).wr W33).wr W36).wr W39).wr W42).wr W45).wr W48).wr W51).wr W54).wr W57).wr W60).wr W63).keep K66).ext E67).keep K68).keep K188).keep K189).keep K198).keep K205)
      obtain ⟨_, T226, L226, X226, hQ226, st226⟩ := own_cV X224 hx hZ hown hml (cw25 hw) (rm35_0 l Z a0 hw b16 T205.heap n0 OL205 ) ec224 fc227 274 #[iv p1, iv p2, iv p3, iv p4, iv p5, rv b1, rv b3, rv b5, rv b16, rv b27, rv v1, rv b66_0, rv b67, rv b188_0, rv b189_0] [(.ref b16)] [] 0 rfl (hb hby at_274) (by decide)
      obtain ⟨rfl, Nq226, ec226⟩ := hQ226
      have N226 := Fr.app N224 Nq226
      have fc229 := ((u189_6.keep K198 (ninS (Ne.symm nz217) (ninS (Ne.symm nz216) nin0))).keep K205 (ninS (Ne.symm nz219) nin0))
      obtain ⟨_, T228, L228, X228, hQ228, st228⟩ := own_cV X226 hx hZ hown hml (cw27 hw) (rm37_0 l Z a0 hw b189_0 v1 T205.heap n0 OL205 fc229) ec226 fc221 282 #[iv p1, iv p2, iv p3, iv p4, iv p5, rv b1, rv b3, rv b5, rv b16, rv b27, rv v1, rv b66_0, rv b67, rv b188_0, rv b189_0] [] [] 0 rfl (hb hby at_282) (by decide)
      obtain ⟨rfl, Nq228, ec228⟩ := hQ228
      have N228 := Fr.app N226 Nq228
      have fc231 := ((u189_7.keep K198 (ninS (Ne.symm nz217) (ninS (Ne.symm nz216) nin0))).keep K205 (ninS (Ne.symm nz219) nin0))
      obtain ⟨_, T230, L230, X230, hQ230, st230⟩ := own_cV X228 hx hZ hown hml (cw28 hw) (rm38_0 l Z a0 hw b189_0 T205.heap n0 OL205 fc231) ec228 fc221 292 #[iv p1, iv p2, iv p3, iv p4, iv p5, rv b1, rv b3, rv b5, rv b16, rv b27, rv v1, rv b66_0, rv b67, rv b188_0, rv b189_0] [] [] 0 rfl (hb hby at_292) (by decide)
      obtain ⟨rfl, Nq230, ec230⟩ := hQ230
      have N230 := Fr.app N228 Nq230
      have fc233 := ((u189_8.keep K198 (ninS (Ne.symm nz217) (ninS (Ne.symm nz216) nin0))).keep K205 (ninS (Ne.symm nz219) nin0))
      obtain ⟨_, T232, L232, X232, hQ232, st232⟩ := own_cV X230 hx hZ hown hml (cw29 hw) (rm39_0 l Z a0 hw b189_0 T205.heap n0 OL205 fc233) ec230 fc221 300 #[iv p1, iv p2, iv p3, iv p4, iv p5, rv b1, rv b3, rv b5, rv b16, rv b27, rv v1, rv b66_0, rv b67, rv b188_0, rv b189_0] [] [] 0 rfl (hb hby at_300) (by decide)
      obtain ⟨rfl, Nq232, ec232⟩ := hQ232
      have N232 := Fr.app N230 Nq232
      have fc235 := ((u189_9.keep K198 (ninS (Ne.symm nz217) (ninS (Ne.symm nz216) nin0))).keep K205 (ninS (Ne.symm nz219) nin0))
      obtain ⟨_, T234, L234, X234, hQ234, st234⟩ := own_cV X232 hx hZ hown hml (cw30 hw) (rm40_1 l Z a0 hw b189_0 b189_1 T205.heap n0 OL205 fc235) ec232 fc221 308 #[iv p1, iv p2, iv p3, iv p4, iv p5, rv b1, rv b3, rv b5, rv b16, rv b27, rv v1, rv b66_0, rv b67, rv b188_0, rv b189_0] [] [] 0 rfl (hb hby at_308) (by decide)
      obtain ⟨rfl, Nq234, ec234⟩ := hQ234
      have N234 := Fr.app N232 Nq234
      have nz237 := nl u188_9.lt u189_1
      have nz238 := nl u188_6.lt u189_1
      have nz239 := nl lz218 u189_1
      have fc240 := ((u189_12.keep K198 (ninS (Ne.symm nz238) (ninS (Ne.symm nz237) nin0))).keep K205 (ninS (Ne.symm nz239) nin0))
      have fc241 := ((u189_10.keep K198).keep K205)
      have fc242 := ((u189_11.keep K198 (ninS (Ne.symm nz238) (ninS (Ne.symm nz237) nin0))).keep K205 (ninS (Ne.symm nz239) nin0))
      obtain ⟨_, T236, L236, X236, hQ236, st236⟩ := own_cS X234 hx hZ hown hml (cw32 hw) (rm41_2 l Z a0 hw b189_1 p5 b1 b3 x187 w_EMPTY x184 T205.heap n0 OL205 hf71 fc240 pr53 pr54 Gx187 fc241 fc242 hx184 hx187) ec234 317 #[iv p1, iv p2, iv p3, iv p4, iv p5, rv b1, rv b3, rv b5, rv b16, rv b27, rv v1, rv b66_0, rv b67, rv b188_0, rv b189_0] [(.ref b189_1), (.int p5), (.ref b1), (.ref b3)] [] 0 rfl (hb hby at_317) (by decide)
      obtain ⟨rfl, Nq236, ec236⟩ := hQ236
      have N236 := Fr.app N234 Nq236
      have nz244 := nl u68_5.lt u188_1
      have nz245 := nl u68_5.lt u188_0
      have fc246 := ((((u68_5.keep K188 nin0).keep K189 nin0).keep K198 (ninS nz245 (ninS nz244 nin0))).keep K205 (ninS (Ne.symm nz206) nin0))
      have fc247 := (((fc197.keep K189).keep K198).keep K205)
      obtain ⟨_, T243, L243, X243, hQ243, st243⟩ := own_cV X236 hx hZ hown hml (cw30 hw) (rm40_0 l Z a0 hw b67 w_EMPTY_LIST T205.heap n0 OL205 fc246) ec236 fc247 325 #[iv p1, iv p2, iv p3, iv p4, iv p5, rv b1, rv b3, rv b5, rv b16, rv b27, rv v1, rv b66_0, rv b67, rv b188_0, rv b189_0] [] [] 0 rfl (hb hby at_325) (by decide)
      obtain ⟨rfl, Nq243, ec243⟩ := hQ243
      have N243 := Fr.app N236 Nq243
      obtain ⟨_, T248, L248, X248, hQ248, st248⟩ := own_cS X243 hx hZ hown hml (cw32 hw) (rm41_0 l Z a0 hw w_EMPTY_LIST p4 b1 b3 w_EMPTY_LIST__elements k_w_EMPTY_LIST__elements T205.heap n0 OL205 hf65 pr49 pr50 pr51) ec243 333 #[iv p1, iv p2, iv p3, iv p4, iv p5, rv b1, rv b3, rv b5, rv b16, rv b27, rv v1, rv b66_0, rv b67, rv b188_0, rv b189_0] [(.ref w_EMPTY_LIST), (.int p4), (.ref b1), (.ref b3)] [] 0 rfl (hb hby at_333) (by decide)
      obtain ⟨rfl, Nq248, ec248⟩ := hQ248
      have N248 := Fr.app N243 Nq248
      obtain ⟨fs, hr, hrun, hended, hW, hsame⟩ := X248.leave (v := some (.int (1 : Int32))) (fun h => by rw [Bd.returns] at h; cases h)
      refine ⟨_, _, pre71 _ ?_, hrun, hended, _, _, rfl, ⟨rfl, N248⟩, ⟨_, rfl⟩, hW, hsame.mono (by decide) (by decide)⟩
      refine st188 _ ?_
      show SS p e below T188 m 227 #[iv p1, iv p2, iv p3, iv p4, iv p5, rv b1, rv b3, rv b5, rv b16, rv b27, rv v1, rv b66_0, rv b67, uu, uu] [(.ref b188_0)] _
      refine XS.astore X188.here hx rfl (hb hby at_227) rfl rfl (l' := #[iv p1, iv p2, iv p3, iv p4, iv p5, rv b1, rv b3, rv b5, rv b16, rv b27, rv v1, rv b66_0, rv b67, rv b188_0, uu]) rfl ?_
      refine XS.aload X188.here hx rfl (hb hby at_229) rfl rfl ?_
      refine XS.aload X188.here hx rfl (hb hby at_231) rfl rfl ?_
      refine st189 _ ?_
      refine XS.astore X189.here hx rfl (hb hby at_236) rfl rfl (l' := #[iv p1, iv p2, iv p3, iv p4, iv p5, rv b1, rv b3, rv b5, rv b16, rv b27, rv v1, rv b66_0, rv b67, rv b188_0, rv b189_0]) rfl ?_
      refine XS.aload X189.here hx rfl (hb hby at_238) rfl rfl ?_
      refine XS.aload X189.here hx rfl (hb hby at_240) rfl rfl ?_
      refine st198 _ ?_
      refine XS.pop X198.here hx rfl (hb hby at_245) rfl rfl ?_
      refine XS.aload X198.here hx rfl (hb hby at_246) rfl rfl ?_
      show SS p e below T198 m 248 #[iv p1, iv p2, iv p3, iv p4, iv p5, rv b1, rv b3, rv b5, rv b16, rv b27, rv v1, rv b66_0, rv b67, rv b188_0, rv b189_0] [(.ref b66_0)] _
      refine XS.aload X198.here hx rfl (hb hby at_248) rfl rfl ?_
      refine st205 _ ?_
      refine XS.pop X205.here hx rfl (hb hby at_253) rfl rfl ?_
      refine XS.aload X205.here hx rfl (hb hby at_254) rfl rfl ?_
      refine st215 _ ?_
      refine XS.aload X215.here hx rfl (hb hby at_259) rfl rfl ?_
      refine st222 _ ?_
      refine XS.ifNo X222.here hx rfl (hb hby at_264) rfl ((if0 _ _).trans (feq (by decide : ¬ ((1 : Int32) = (0 : Int32)))).1) ?_
      refine XS.aload X222.here hx rfl (hb hby at_267) rfl rfl ?_
      refine st224 _ ?_
      show SS p e below T224 m 272 #[iv p1, iv p2, iv p3, iv p4, iv p5, rv b1, rv b3, rv b5, rv b16, rv b27, rv v1, rv b66_0, rv b67, rv b188_0, rv b189_0] [(.ref b16)] _
      refine XS.aload X224.here hx rfl (hb hby at_272) rfl rfl ?_
      refine st226 _ ?_
      refine XS.ifNo X226.here hx rfl (hb hby at_277) rfl ((if0 _ _).trans (feq (by decide : ¬ ((1 : Int32) = (0 : Int32)))).1) ?_
      refine XS.aload X226.here hx rfl (hb hby at_280) rfl rfl ?_
      refine st228 _ ?_
      refine XS.aload X228.here hx rfl (hb hby at_285) rfl rfl ?_
      refine Jvm.RoadKit.acmp (g := (mkF m 287 #[iv p1, iv p2, iv p3, iv p4, iv p5, rv b1, rv b3, rv b5, rv b16, rv b27, rv v1, rv b66_0, rv b67, rv b188_0, rv b189_0] [(.ref v1), (.ref v1)])) X228 hx rfl rfl rfl (pc0 := 287) (pc' := 290) (same := true) rfl (hb hby at_287) rfl (decide_eq_true rfl) (by decide) (by decide) ?_
      refine XS.aload X228.here hx rfl (hb hby at_290) rfl rfl ?_
      refine st230 _ ?_
      refine XS.ifnonnullNo X230.here hx rfl (hb hby at_295) rfl ?_
      show SS p e below T230 m 298 #[iv p1, iv p2, iv p3, iv p4, iv p5, rv b1, rv b3, rv b5, rv b16, rv b27, rv v1, rv b66_0, rv b67, rv b188_0, rv b189_0] [] _
      refine XS.aload X230.here hx rfl (hb hby at_298) rfl rfl ?_
      refine st232 _ ?_
      refine XS.ifnonnullNo X232.here hx rfl (hb hby at_303) rfl ?_
      refine XS.aload X232.here hx rfl (hb hby at_306) rfl rfl ?_
      refine st234 _ ?_
      refine XS.iload X234.here hx rfl (hb hby at_311) rfl ?_
      refine XS.aload X234.here hx rfl (hb hby at_313) rfl rfl ?_
      refine XS.aload X234.here hx rfl (hb hby at_315) rfl rfl ?_
      refine st236 _ ?_
      refine XS.ifNo X236.here hx rfl (hb hby at_320) rfl ((if0 _ _).trans (feq (by decide : ¬ ((1 : Int32) = (0 : Int32)))).1) ?_
      show SS p e below T236 m 323 #[iv p1, iv p2, iv p3, iv p4, iv p5, rv b1, rv b3, rv b5, rv b16, rv b27, rv v1, rv b66_0, rv b67, rv b188_0, rv b189_0] [] _
      refine XS.aload X236.here hx rfl (hb hby at_323) rfl rfl ?_
      refine st243 _ ?_
      refine XS.iloadN X243.here hx rfl (hb hby at_328) rfl ?_
      refine XS.aload X243.here hx rfl (hb hby at_329) rfl rfl ?_
      refine XS.aload X243.here hx rfl (hb hby at_331) rfl rfl ?_
      refine st248 _ ?_
      refine XS.ifNo X248.here hx rfl (hb hby at_336) rfl ((if0 _ _).trans (feq (by decide : ¬ ((1 : Int32) = (0 : Int32)))).1) ?_
      refine XS.iconst X248.here hx rfl (hb hby at_339) ?_
      refine XS.goto X248.here hx rfl (pc0 := 340) (pc' := 344) rfl (hb hby at_340) (by decide) (by decide) ?_
      show SS p e below T248 m 344 #[iv p1, iv p2, iv p3, iv p4, iv p5, rv b1, rv b3, rv b5, rv b16, rv b27, rv v1, rv b66_0, rv b67, rv b188_0, rv b189_0] [(.int (1 : Int32))] _
      exact retN X248 hx (t := .boolean) Bd.returns (by simp) (hb hby at_344) hr
    · obtain ⟨x249, hx249⟩ : ∃ w, (if (((p5.toUInt32 >>> ((2 : Int32) &&& 31).toUInt32).toInt32) &&& (1 : Int32)) = (0 : Int32) then b1 else b3) = w := ⟨_, rfl⟩
      have fc250 := (((((((((((((((((((((((((((((A1.keep K2).ext E3).keep K4).ext E5).ext E6).wr W8).wr W10).keep K11).ext E16).ext E17).wr W19).wr W21).keep K22).ext E27).wr W30).wr W33).wr W36).wr W39).wr W42).wr W45).wr W48).wr W51).wr W54).wr W57).wr W60).wr W63).keep K66).ext E67).keep K68)
      have fc251 := (((((((((((((((((((((((((((A3.keep K4).ext E5).ext E6).wr W8).wr W10).keep K11).ext E16).ext E17).wr W19).wr W21).keep K22).ext E27).wr W30).wr W33).wr W36).wr W39).wr W42).wr W45).wr W48).wr W51).wr W54).wr W57).wr W60).wr W63).keep K66).ext E67).keep K68)
      have Ex249 := own_iteE hx249 fc250 fc251
      obtain ⟨x252, hx252⟩ : ∃ w, (if (((p5.toUInt32 >>> ((3 : Int32) &&& 31).toUInt32).toInt32) &&& (1 : Int32)) = (0 : Int32) then b1 else b3) = w := ⟨_, rfl⟩
      have Ex252 := own_iteE hx252 fc250 fc251
      obtain ⟨x253, hx253⟩ : ∃ w, (if (((p5.toUInt32 >>> ((4 : Int32) &&& 31).toUInt32).toInt32) &&& (1 : Int32)) = (0 : Int32) then b1 else b3) = w := ⟨_, rfl⟩
      have Ex253 := own_iteE hx253 fc250 fc251
      obtain ⟨_, T254, L254, X254, hQ254, st254⟩ := own_cS X68 hx hZ hown hml (cw10 hw) (rm9_3 l Z a0 hw p5 b1 b3 w_DEFAULTCAPACITY_EMPTY_ELEMENTDATA x249 k_w_DEFAULTCAPACITY_EMPTY_ELEMENTDATA x252 x253 T68.heap n0 OL68 hf71 pr46 hx249 pr48 Ex249 hx252 Ex252 hx253 Ex253) rfl 224 #[iv p1, iv p2, iv p3, iv p4, iv p5, rv b1, rv b3, rv b5, rv b16, rv b27, rv v1, rv b66_0, rv b67, uu, uu] [(.int p5), (.ref b1), (.ref b3)] [] 0 rfl (hb hby at_224) (by decide)
      obtain ⟨b254_0, b254_1, kx254_0, rfl, Nq254, K254, u254_0, u254_1, u254_2, u254_3, u254_4, u254_5, u254_6, u254_7, u254_8, u254_9⟩ := hQ254
      have OL254 := OL68.keep K254 all0
      have g_b254_0 : n0 ≤ b254_0 := Nat.le_trans (Nat.le_trans (Nat.le_of_eq OL68.1.symm) OL68.2.1) u254_0
      have g_b254_1 : n0 ≤ b254_1 := Nat.le_trans (Nat.le_trans (Nat.le_of_eq OL68.1.symm) OL68.2.1) u254_1
      have N254 := Fr.app N68 Nq254
      have fc256 := (u68_0.keep K254 nin0)
      have fc257 := (u68_1.keep K254 nin0)
      have fc258 := (u68_2.keep K254 nin0)
      have fc259 := (u68_3.keep K254 nin0)
      have fc260 := (u68_4.keep K254 nin0)
      have fc261 := (Ex253.keep K254)
      have fc262 := (Ex252.keep K254)
      have fc263 := (Ex249.keep K254)
      have fc264 := ((A67.keep K68).keep K254)
      obtain ⟨_, T255, L255, X255, hQ255, st255⟩ := own_cV X254 hx hZ hown hml (cw18 hw) (rm32_3 l Z a0 hw b67 b254_0 b5 b16 v1 b254_1 mir_objs x249 x252 x253 kx254_0 T254.heap n0 OL254 fc256 fc257 fc258 fc259 fc260 u254_3 u254_6 u254_5 pr52 u254_9 u254_7 fc261 fc262 fc263) rfl fc264 233 #[iv p1, iv p2, iv p3, iv p4, iv p5, rv b1, rv b3, rv b5, rv b16, rv b27, rv v1, rv b66_0, rv b67, rv b254_0, uu] [(.ref b254_0)] [] 0 rfl (hb hby at_233) (by decide)
      obtain ⟨b255_0, b255_1, b255_2, kx255_0, rfl, Nq255, K255, u255_0, u255_1, u255_2, u255_3, u255_4, u255_5, u255_6, u255_7, u255_8, u255_9, u255_10, u255_11, u255_12, u255_13, u255_14, u255_15, u255_16, u255_17, u255_18⟩ := hQ255
      have OL255 := OL254.keep K255 all0
      have N255 := Fr.app N254 Nq255
      have fc266 := (u254_4.keep K255 nin0)
      have fc267 := (u254_3.keep K255)
      have fc268 := (u254_5.keep K255 nin0)
      have fc269 := (u254_6.keep K255 nin0)
      have fc270 := (u254_7.keep K255 nin0)
      have fc271 := ((fc250.keep K254).keep K255)
      obtain ⟨_, T265, L265, X265, hQ265, st265⟩ := own_cV X255 hx hZ hown hml (cw23 hw) (rm14_3 l Z a0 hw b254_0 b1 b254_1 x249 x252 x253 kx254_0 T255.heap n0 OL255 fc266 fc267 g_b254_0 fc268 fc269 fc270 (Ne.symm u254_2) g_b254_1 u254_8 fc271 u254_2) rfl fc267 242 #[iv p1, iv p2, iv p3, iv p4, iv p5, rv b1, rv b3, rv b5, rv b16, rv b27, rv v1, rv b66_0, rv b67, rv b254_0, rv b255_0] [(.ref b1)] [] 0 rfl (hb hby at_242) (by decide)
      obtain ⟨rfl, Nq265, K265, u265_0, u265_1, u265_2, u265_3⟩ := hQ265
      have OL265 := OL255.keep K265 (allS g_b254_0 (allS g_b254_1 all0))
      have N265 := Fr.app N255 Nq265
      have nz273 := (nl u66_4.lt (Nat.le_of_eq g67.symm))
      have lz274 := (lq fc70.lt K68.1)
      have nz275 := nl lz274 u254_1
      have nz276 := nl lz274 u254_0
      have fc277 := (((((u66_2.ext E67).keep K68 (ninS nz273 nin0)).keep K254 nin0).keep K255 nin0).keep K265 (ninS nz276 (ninS nz275 nin0)))
      have fc278 := ((((fc69.keep K68).keep K254).keep K255).keep K265)
      have fc279 := (((((u66_3.ext E67).keep K68 (ninS nz273 nin0)).keep K254 nin0).keep K255 nin0).keep K265 (ninS nz276 (ninS nz275 nin0)))
      have fc280 := ((((fc70.keep K68 (ninS nz273 nin0)).keep K254 nin0).keep K255 nin0).keep K265 (ninS nz276 (ninS nz275 nin0)))
      have fc281 := (((fc251.keep K254).keep K255).keep K265)
      obtain ⟨_, T272, L272, X272, hQ272, st272⟩ := own_cV X265 hx hZ hown hml (cw23 hw) (rm14_0 l Z a0 hw b66_0 b3 w_DEFAULTCAPACITY_EMPTY_ELEMENTDATA k_w_DEFAULTCAPACITY_EMPTY_ELEMENTDATA T265.heap n0 OL265 fc277 fc278 g_b66_0 fc279 fc280 pr48 pr46 fc281) rfl fc278 250 #[iv p1, iv p2, iv p3, iv p4, iv p5, rv b1, rv b3, rv b5, rv b16, rv b27, rv v1, rv b66_0, rv b67, rv b254_0, rv b255_0] [(.ref b3)] [] 0 rfl (hb hby at_250) (by decide)
      obtain ⟨b272_0, kx272_0, rfl, Nq272, K272, u272_0, u272_1, u272_2, u272_3, u272_4, u272_5, u272_6⟩ := hQ272
      have OL272 := OL265.keep K272 (allS g_b66_0 all0)
      have N272 := Fr.app N265 Nq272
      have nz283 := nl u254_9.lt u255_0
      have nz284 := nl u254_6.lt u255_0
      have lz285 := (lq lz274 K254.1)
      have nz286 := nl lz285 u255_0
      have fc287 := ((u255_7.keep K265 (ninS (Ne.symm nz284) (ninS (Ne.symm nz283) nin0))).keep K272 (ninS (Ne.symm nz286) nin0))
      have fc288 := ((u255_6.keep K265).keep K272)
      obtain ⟨_, T282, L282, X282, hQ282, st282⟩ := own_cV X272 hx hZ hown hml (cw24 hw) (rm34_0 l Z a0 hw b255_0 b5 T272.heap n0 OL272 fc287) rfl fc288 256 #[iv p1, iv p2, iv p3, iv p4, iv p5, rv b1, rv b3, rv b5, rv b16, rv b27, rv v1, rv b66_0, rv b67, rv b254_0, rv b255_0] [] [] 0 rfl (hb hby at_256) (by decide)
      obtain ⟨rfl, Nq282, ec282⟩ := hQ282
      have N282 := Fr.app N272 Nq282
      have fc290 := ((((((((((((((((((((((((((fc12.keep K11).ext E16).ext E17).wr W19).wr W21).keep K22).ext E27).wr W30).wr W33).wr W36).wr W39).wr W42).wr W45).wr W48).wr W51).wr W54).wr W57).wr W60).wr W63).keep K66).ext E67).keep K68).keep K254).keep K255).keep K265).keep K272)
      obtain ⟨_, T289, L289, X289, hQ289, st289⟩ := own_cV X282 hx hZ hown hml (cw25 hw) (rm35_0 l Z a0 hw b5 T272.heap n0 OL272 ) ec282 fc290 261 #[iv p1, iv p2, iv p3, iv p4, iv p5, rv b1, rv b3, rv b5, rv b16, rv b27, rv v1, rv b66_0, rv b67, rv b254_0, rv b255_0] [(.ref b5)] [] 0 rfl (hb hby at_261) (by decide)
      obtain ⟨rfl, Nq289, ec289⟩ := hQ289
      have N289 := Fr.app N282 Nq289
      have fc292 := ((u255_8.keep K265 (ninS (Ne.symm nz284) (ninS (Ne.symm nz283) nin0))).keep K272 (ninS (Ne.symm nz286) nin0))
      obtain ⟨_, T291, L291, X291, hQ291, st291⟩ := own_cV X289 hx hZ hown hml (cw26 hw) (rm36_0 l Z a0 hw b255_0 b16 T272.heap n0 OL272 fc292) ec289 fc288 269 #[iv p1, iv p2, iv p3, iv p4, iv p5, rv b1, rv b3, rv b5, rv b16, rv b27, rv v1, rv b66_0, rv b67, rv b254_0, rv b255_0] [] [] 0 rfl (hb hby at_269) (by decide)
      obtain ⟨rfl, Nq291, ec291⟩ := hQ291
      have N291 := Fr.app N289 Nq291
      have fc294 := (((((((((((((((((((((fc23.keep K22).ext E27).wr W30).wr W33).wr W36).wr W39).wr W42).wr W45).wr W48).wr W51).wr W54).wr W57).wr W60).wr W63).keep K66).ext E67).keep K68).keep K254).keep K255).keep K265).keep K272)
      obtain ⟨_, T293, L293, X293, hQ293, st293⟩ := own_cV X291 hx hZ hown hml (cw25 hw) (rm35_0 l Z a0 hw b16 T272.heap n0 OL272 ) ec291 fc294 274 #[iv p1, iv p2, iv p3, iv p4, iv p5, rv b1, rv b3, rv b5, rv b16, rv b27, rv v1, rv b66_0, rv b67, rv b254_0, rv b255_0] [(.ref b16)] [] 0 rfl (hb hby at_274) (by decide)
      obtain ⟨rfl, Nq293, ec293⟩ := hQ293
      have N293 := Fr.app N291 Nq293
      have fc296 := ((u255_9.keep K265 (ninS (Ne.symm nz284) (ninS (Ne.symm nz283) nin0))).keep K272 (ninS (Ne.symm nz286) nin0))
      obtain ⟨_, T295, L295, X295, hQ295, st295⟩ := own_cV X293 hx hZ hown hml (cw27 hw) (rm37_0 l Z a0 hw b255_0 v1 T272.heap n0 OL272 fc296) ec293 fc288 282 #[iv p1, iv p2, iv p3, iv p4, iv p5, rv b1, rv b3, rv b5, rv b16, rv b27, rv v1, rv b66_0, rv b67, rv b254_0, rv b255_0] [] [] 0 rfl (hb hby at_282) (by decide)
      obtain ⟨rfl, Nq295, ec295⟩ := hQ295
      have N295 := Fr.app N293 Nq295
      have fc298 := ((u255_10.keep K265 (ninS (Ne.symm nz284) (ninS (Ne.symm nz283) nin0))).keep K272 (ninS (Ne.symm nz286) nin0))
      obtain ⟨_, T297, L297, X297, hQ297, st297⟩ := own_cV X295 hx hZ hown hml (cw28 hw) (rm38_0 l Z a0 hw b255_0 T272.heap n0 OL272 fc298) ec295 fc288 292 #[iv p1, iv p2, iv p3, iv p4, iv p5, rv b1, rv b3, rv b5, rv b16, rv b27, rv v1, rv b66_0, rv b67, rv b254_0, rv b255_0] [] [] 0 rfl (hb hby at_292) (by decide)
      obtain ⟨rfl, Nq297, ec297⟩ := hQ297
      have N297 := Fr.app N295 Nq297
      have fc300 := ((u255_11.keep K265 (ninS (Ne.symm nz284) (ninS (Ne.symm nz283) nin0))).keep K272 (ninS (Ne.symm nz286) nin0))
      obtain ⟨_, T299, L299, X299, hQ299, st299⟩ := own_cV X297 hx hZ hown hml (cw29 hw) (rm39_0 l Z a0 hw b255_0 T272.heap n0 OL272 fc300) ec297 fc288 300 #[iv p1, iv p2, iv p3, iv p4, iv p5, rv b1, rv b3, rv b5, rv b16, rv b27, rv v1, rv b66_0, rv b67, rv b254_0, rv b255_0] [] [] 0 rfl (hb hby at_300) (by decide)
      obtain ⟨rfl, Nq299, ec299⟩ := hQ299
      have N299 := Fr.app N297 Nq299
      have fc302 := ((u255_12.keep K265 (ninS (Ne.symm nz284) (ninS (Ne.symm nz283) nin0))).keep K272 (ninS (Ne.symm nz286) nin0))
      obtain ⟨_, T301, L301, X301, hQ301, st301⟩ := own_cV X299 hx hZ hown hml (cw30 hw) (rm40_1 l Z a0 hw b255_0 b255_1 T272.heap n0 OL272 fc302) ec299 fc288 308 #[iv p1, iv p2, iv p3, iv p4, iv p5, rv b1, rv b3, rv b5, rv b16, rv b27, rv v1, rv b66_0, rv b67, rv b254_0, rv b255_0] [] [] 0 rfl (hb hby at_308) (by decide)
      obtain ⟨rfl, Nq301, ec301⟩ := hQ301
      have N301 := Fr.app N299 Nq301
      have nz304 := nl u254_9.lt u255_1
      have nz305 := nl u254_6.lt u255_1
      have nz306 := nl lz285 u255_1
      have fc307 := ((u255_14.keep K265 (ninS (Ne.symm nz305) (ninS (Ne.symm nz304) nin0))).keep K272 (ninS (Ne.symm nz306) nin0))
      have nz308 := nl u254_9.lt u255_2
      have nz309 := nl u254_6.lt u255_2
      have nz310 := nl lz285 u255_2
      have fc311 := ((u255_16.keep K265 (ninS (Ne.symm nz309) (ninS (Ne.symm nz308) nin0))).keep K272 (ninS (Ne.symm nz310) nin0))
      have fc312 := ((u255_13.keep K265).keep K272)
      obtain ⟨_, T303, L303, X303, hQ303, st303⟩ := own_cS X301 hx hZ hown hml (cw32 hw) (rm41_3 l Z a0 hw b255_1 p5 b1 b3 b255_2 x249 x252 x253 kx255_0 T272.heap n0 OL272 hf71 fc307 fc311 fc312 hx249 hx252 hx253) ec301 317 #[iv p1, iv p2, iv p3, iv p4, iv p5, rv b1, rv b3, rv b5, rv b16, rv b27, rv v1, rv b66_0, rv b67, rv b254_0, rv b255_0] [(.ref b255_1), (.int p5), (.ref b1), (.ref b3)] [] 0 rfl (hb hby at_317) (by decide)
      obtain ⟨rfl, Nq303, ec303⟩ := hQ303
      have N303 := Fr.app N301 Nq303
      have nz314 := nl u68_5.lt u254_1
      have nz315 := nl u68_5.lt u254_0
      have fc316 := ((((u68_5.keep K254 nin0).keep K255 nin0).keep K265 (ninS nz315 (ninS nz314 nin0))).keep K272 (ninS (Ne.symm nz273) nin0))
      have fc317 := (((fc264.keep K255).keep K265).keep K272)
      obtain ⟨_, T313, L313, X313, hQ313, st313⟩ := own_cV X303 hx hZ hown hml (cw30 hw) (rm40_0 l Z a0 hw b67 w_EMPTY_LIST T272.heap n0 OL272 fc316) ec303 fc317 325 #[iv p1, iv p2, iv p3, iv p4, iv p5, rv b1, rv b3, rv b5, rv b16, rv b27, rv v1, rv b66_0, rv b67, rv b254_0, rv b255_0] [] [] 0 rfl (hb hby at_325) (by decide)
      obtain ⟨rfl, Nq313, ec313⟩ := hQ313
      have N313 := Fr.app N303 Nq313
      obtain ⟨_, T318, L318, X318, hQ318, st318⟩ := own_cS X313 hx hZ hown hml (cw32 hw) (rm41_0 l Z a0 hw w_EMPTY_LIST p4 b1 b3 w_EMPTY_LIST__elements k_w_EMPTY_LIST__elements T272.heap n0 OL272 hf65 pr49 pr50 pr51) ec313 333 #[iv p1, iv p2, iv p3, iv p4, iv p5, rv b1, rv b3, rv b5, rv b16, rv b27, rv v1, rv b66_0, rv b67, rv b254_0, rv b255_0] [(.ref w_EMPTY_LIST), (.int p4), (.ref b1), (.ref b3)] [] 0 rfl (hb hby at_333) (by decide)
      obtain ⟨rfl, Nq318, ec318⟩ := hQ318
      have N318 := Fr.app N313 Nq318
      obtain ⟨fs, hr, hrun, hended, hW, hsame⟩ := X318.leave (v := some (.int (1 : Int32))) (fun h => by rw [Bd.returns] at h; cases h)
      refine ⟨_, _, pre71 _ ?_, hrun, hended, _, _, rfl, ⟨rfl, N318⟩, ⟨_, rfl⟩, hW, hsame.mono (by decide) (by decide)⟩
      refine st254 _ ?_
      show SS p e below T254 m 227 #[iv p1, iv p2, iv p3, iv p4, iv p5, rv b1, rv b3, rv b5, rv b16, rv b27, rv v1, rv b66_0, rv b67, uu, uu] [(.ref b254_0)] _
      refine XS.astore X254.here hx rfl (hb hby at_227) rfl rfl (l' := #[iv p1, iv p2, iv p3, iv p4, iv p5, rv b1, rv b3, rv b5, rv b16, rv b27, rv v1, rv b66_0, rv b67, rv b254_0, uu]) rfl ?_
      refine XS.aload X254.here hx rfl (hb hby at_229) rfl rfl ?_
      refine XS.aload X254.here hx rfl (hb hby at_231) rfl rfl ?_
      refine st255 _ ?_
      refine XS.astore X255.here hx rfl (hb hby at_236) rfl rfl (l' := #[iv p1, iv p2, iv p3, iv p4, iv p5, rv b1, rv b3, rv b5, rv b16, rv b27, rv v1, rv b66_0, rv b67, rv b254_0, rv b255_0]) rfl ?_
      refine XS.aload X255.here hx rfl (hb hby at_238) rfl rfl ?_
      refine XS.aload X255.here hx rfl (hb hby at_240) rfl rfl ?_
      refine st265 _ ?_
      refine XS.pop X265.here hx rfl (hb hby at_245) rfl rfl ?_
      refine XS.aload X265.here hx rfl (hb hby at_246) rfl rfl ?_
      show SS p e below T265 m 248 #[iv p1, iv p2, iv p3, iv p4, iv p5, rv b1, rv b3, rv b5, rv b16, rv b27, rv v1, rv b66_0, rv b67, rv b254_0, rv b255_0] [(.ref b66_0)] _
      refine XS.aload X265.here hx rfl (hb hby at_248) rfl rfl ?_
      refine st272 _ ?_
      refine XS.pop X272.here hx rfl (hb hby at_253) rfl rfl ?_
      refine XS.aload X272.here hx rfl (hb hby at_254) rfl rfl ?_
      refine st282 _ ?_
      refine XS.aload X282.here hx rfl (hb hby at_259) rfl rfl ?_
      refine st289 _ ?_
      refine XS.ifNo X289.here hx rfl (hb hby at_264) rfl ((if0 _ _).trans (feq (by decide : ¬ ((1 : Int32) = (0 : Int32)))).1) ?_
      refine XS.aload X289.here hx rfl (hb hby at_267) rfl rfl ?_
      refine st291 _ ?_
      show SS p e below T291 m 272 #[iv p1, iv p2, iv p3, iv p4, iv p5, rv b1, rv b3, rv b5, rv b16, rv b27, rv v1, rv b66_0, rv b67, rv b254_0, rv b255_0] [(.ref b16)] _
      refine XS.aload X291.here hx rfl (hb hby at_272) rfl rfl ?_
      refine st293 _ ?_
      refine XS.ifNo X293.here hx rfl (hb hby at_277) rfl ((if0 _ _).trans (feq (by decide : ¬ ((1 : Int32) = (0 : Int32)))).1) ?_
      refine XS.aload X293.here hx rfl (hb hby at_280) rfl rfl ?_
      refine st295 _ ?_
      refine XS.aload X295.here hx rfl (hb hby at_285) rfl rfl ?_
      refine Jvm.RoadKit.acmp (g := (mkF m 287 #[iv p1, iv p2, iv p3, iv p4, iv p5, rv b1, rv b3, rv b5, rv b16, rv b27, rv v1, rv b66_0, rv b67, rv b254_0, rv b255_0] [(.ref v1), (.ref v1)])) X295 hx rfl rfl rfl (pc0 := 287) (pc' := 290) (same := true) rfl (hb hby at_287) rfl (decide_eq_true rfl) (by decide) (by decide) ?_
      refine XS.aload X295.here hx rfl (hb hby at_290) rfl rfl ?_
      refine st297 _ ?_
      refine XS.ifnonnullNo X297.here hx rfl (hb hby at_295) rfl ?_
      show SS p e below T297 m 298 #[iv p1, iv p2, iv p3, iv p4, iv p5, rv b1, rv b3, rv b5, rv b16, rv b27, rv v1, rv b66_0, rv b67, rv b254_0, rv b255_0] [] _
      refine XS.aload X297.here hx rfl (hb hby at_298) rfl rfl ?_
      refine st299 _ ?_
      refine XS.ifnonnullNo X299.here hx rfl (hb hby at_303) rfl ?_
      refine XS.aload X299.here hx rfl (hb hby at_306) rfl rfl ?_
      refine st301 _ ?_
      refine XS.iload X301.here hx rfl (hb hby at_311) rfl ?_
      refine XS.aload X301.here hx rfl (hb hby at_313) rfl rfl ?_
      refine XS.aload X301.here hx rfl (hb hby at_315) rfl rfl ?_
      refine st303 _ ?_
      refine XS.ifNo X303.here hx rfl (hb hby at_320) rfl ((if0 _ _).trans (feq (by decide : ¬ ((1 : Int32) = (0 : Int32)))).1) ?_
      show SS p e below T303 m 323 #[iv p1, iv p2, iv p3, iv p4, iv p5, rv b1, rv b3, rv b5, rv b16, rv b27, rv v1, rv b66_0, rv b67, rv b254_0, rv b255_0] [] _
      refine XS.aload X303.here hx rfl (hb hby at_323) rfl rfl ?_
      refine st313 _ ?_
      refine XS.iloadN X313.here hx rfl (hb hby at_328) rfl ?_
      refine XS.aload X313.here hx rfl (hb hby at_329) rfl rfl ?_
      refine XS.aload X313.here hx rfl (hb hby at_331) rfl rfl ?_
      refine st318 _ ?_
      refine XS.ifNo X318.here hx rfl (hb hby at_336) rfl ((if0 _ _).trans (feq (by decide : ¬ ((1 : Int32) = (0 : Int32)))).1) ?_
      refine XS.iconst X318.here hx rfl (hb hby at_339) ?_
      refine XS.goto X318.here hx rfl (pc0 := 340) (pc' := 344) rfl (hb hby at_340) (by decide) (by decide) ?_
      show SS p e below T318 m 344 #[iv p1, iv p2, iv p3, iv p4, iv p5, rv b1, rv b3, rv b5, rv b16, rv b27, rv v1, rv b66_0, rv b67, rv b254_0, rv b255_0] [(.int (1 : Int32))] _
      exact retN X318 hx (t := .boolean) Bd.returns (by simp) (hb hby at_344) hr
  · obtain ⟨x319, hx319⟩ : ∃ w, (if (((p4.toUInt32 >>> ((2 : Int32) &&& 31).toUInt32).toInt32) &&& (1 : Int32)) = (0 : Int32) then b1 else b3) = w := ⟨_, rfl⟩
    have fc320 := ((((((((((((((((((((((((((A1.keep K2).ext E3).keep K4).ext E5).ext E6).wr W8).wr W10).keep K11).ext E16).ext E17).wr W19).wr W21).keep K22).ext E27).wr W30).wr W33).wr W36).wr W39).wr W42).wr W45).wr W48).wr W51).wr W54).wr W57).wr W60).wr W63)
    have fc321 := ((((((((((((((((((((((((A3.keep K4).ext E5).ext E6).wr W8).wr W10).keep K11).ext E16).ext E17).wr W19).wr W21).keep K22).ext E27).wr W30).wr W33).wr W36).wr W39).wr W42).wr W45).wr W48).wr W51).wr W54).wr W57).wr W60).wr W63)
    have Ex319 := own_iteE hx319 fc320 fc321
    obtain ⟨_, T322, L322, X322, hQ322, st322⟩ := own_cS X63 hx hZ hown hml (cw10 hw) (rm9_1 l Z a0 hw p4 b1 b3 w_DEFAULTCAPACITY_EMPTY_ELEMENTDATA x319 k_w_DEFAULTCAPACITY_EMPTY_ELEMENTDATA h63 n0 OL63 hf65 pr46 hx319 pr48 Ex319) e63 194 #[iv p1, iv p2, iv p3, iv p4, iv p5, rv b1, rv b3, rv b5, rv b16, rv b27, rv v1, uu, uu, uu, uu] [(.int p4), (.ref b1), (.ref b3)] [] 0 rfl (hb hby at_194) (by decide)
    obtain ⟨b322_0, b322_1, kx322_0, rfl, Nq322, K322, u322_0, u322_1, u322_2, u322_3, u322_4, u322_5, u322_6, u322_7, u322_8, u322_9⟩ := hQ322
    have OL322 := OL63.keep K322 all0
    have g_b322_0 : n0 ≤ b322_0 := Nat.le_trans (Nat.le_trans (Nat.le_of_eq OL63.1.symm) OL63.2.1) u322_0
    have g_b322_1 : n0 ≤ b322_1 := Nat.le_trans (Nat.le_trans (Nat.le_of_eq OL63.1.symm) OL63.2.1) u322_1
    have N322 := Fr.app N63 Nq322
    obtain ⟨T323, h323, X323, e323, E323, A323, D323, -, st323⟩ := newO X322 hx hZ hown (wd141 hw) (wd142 hw) (wd143 hw) rfl (g := (mkF m 199 #[iv p1, iv p2, iv p3, iv p4, iv p5, rv b1, rv b3, rv b5, rv b16, rv b27, rv v1, rv b322_0, uu, uu, uu] [])) rfl (hb hby at_199) (by decide) (by decide)
    obtain ⟨b323, g323⟩ : ∃ z, z = T322.heap.size := ⟨_, rfl⟩
    rw [← g323] at A323 D323 st323
    have g_b323 : n0 ≤ b323 := (Nat.le_trans (Nat.le_trans (Nat.le_of_eq OL322.1.symm) OL322.2.1) (Nat.le_of_eq g323.symm))
    have OL323 := OL322.ext E323
    have F_id_b323 : Fld Z h323 b323 s27 "id" s11 .null := D323 (Or.inr (wd235 hw)) (ty := (.object s39)) (by decide)
    have F_name_b323 : Fld Z h323 b323 s27 "name" s11 .null := D323 (Or.inr (wd237 hw)) (ty := (.object s39)) (by decide)
    have F_basis_b323 : Fld Z h323 b323 s27 "basis" s9 .null := D323 (Or.inr (wd239 hw)) (ty := (.object s26)) (by decide)
    have F_onlyFor_b323 : Fld Z h323 b323 s27 "onlyFor" s16 .null := D323 (Or.inr (wd241 hw)) (ty := (.object s54)) (by decide)
    have F_chargeFor_b323 : Fld Z h323 b323 s27 s24 s16 .null := D323 (Or.inr (wd243 hw)) (ty := (.object s54)) (by decide)
    have F_prices_b323 : Fld Z h323 b323 s27 "prices" s15 .null := D323 (Or.inr (wd245 hw)) (ty := (.object s52)) (by decide)
    have fc325 := (u322_3.ext E323)
    have fc326 := (u322_6.ext E323)
    have fc327 := (u322_5.ext E323)
    have fc328 := (u322_9.ext E323)
    have fc329 := (u322_7.ext E323)
    have fc330 := ((Ex319.keep K322).ext E323)
    obtain ⟨_, T324, L324, X324, hQ324, st324⟩ := own_cN X323 hx hZ hown hml (cw16 hw) (rm19_1 l Z a0 hw b323 b5 b16 v1 b322_0 b322_1 mir_objs x319 kx322_0 w_EMPTY h323 n0 OL323 fc325 fc326 fc327 pr52 fc328 fc329 fc330 pr53 A323 F_id_b323 g_b323 F_name_b323 F_basis_b323 F_onlyFor_b323 F_chargeFor_b323 F_prices_b323) e323 b323 213 #[iv p1, iv p2, iv p3, iv p4, iv p5, rv b1, rv b3, rv b5, rv b16, rv b27, rv v1, rv b322_0, uu, uu, uu] [(.ref b5), (.ref b16), (.ref v1), .null, .null, (.ref b322_0)] [(.ref b323)] 1 rfl (hb hby at_213) (by decide)
    obtain ⟨b324_0, rfl, Nq324, K324, u324_0, u324_1, u324_2, u324_3, u324_4, u324_5, u324_6, u324_7, u324_8, u324_9⟩ := hQ324
    have OL324 := OL323.keep K324 (allS g_b323 all0)
    have N324 := Fr.app N322 Nq324
    have pre331 : ∀ t, SS p e below T324 m 224 #[iv p1, iv p2, iv p3, iv p4, iv p5, rv b1, rv b3, rv b5, rv b16, rv b27, rv v1, rv b322_0, rv b323, uu, uu] [(.ref b3), (.ref b1), (.int p5)] t → Steps p.tables e below (s₁.setTop (entryFrame m #[(.int p1), (.int p2), (.int p3), (.int p4), (.int p5)] maxLocals)) t := by
      intro t kt
      refine pre65 _ ?_
      refine st322 _ ?_
      show SS p e below T322 m 197 #[iv p1, iv p2, iv p3, iv p4, iv p5, rv b1, rv b3, rv b5, rv b16, rv b27, rv v1, uu, uu, uu, uu] [(.ref b322_0)] _
      refine XS.astore X322.here hx rfl (hb hby at_197) rfl rfl (l' := #[iv p1, iv p2, iv p3, iv p4, iv p5, rv b1, rv b3, rv b5, rv b16, rv b27, rv v1, rv b322_0, uu, uu, uu]) rfl ?_
      refine st323 _ ?_
      refine XS.dup X323.here hx rfl (hb hby at_202) rfl rfl ?_
      refine XS.aload X323.here hx rfl (hb hby at_203) rfl rfl ?_
      refine XS.aload X323.here hx rfl (hb hby at_205) rfl rfl ?_
      refine XS.aload X323.here hx rfl (hb hby at_207) rfl rfl ?_
      refine XS.aconstNull X323.here hx rfl (hb hby at_209) ?_
      refine XS.aconstNull X323.here hx rfl (hb hby at_210) ?_
      refine XS.aload X323.here hx rfl (hb hby at_211) rfl rfl ?_
      refine st324 _ ?_
      show SS p e below T324 m 216 #[iv p1, iv p2, iv p3, iv p4, iv p5, rv b1, rv b3, rv b5, rv b16, rv b27, rv v1, rv b322_0, uu, uu, uu] [(.ref b323)] _
      refine XS.astore X324.here hx rfl (hb hby at_216) rfl rfl (l' := #[iv p1, iv p2, iv p3, iv p4, iv p5, rv b1, rv b3, rv b5, rv b16, rv b27, rv v1, rv b322_0, rv b323, uu, uu]) rfl ?_
      refine XS.iload X324.here hx rfl (hb hby at_218) rfl ?_
      refine XS.aload X324.here hx rfl (hb hby at_220) rfl rfl ?_
      refine XS.aload X324.here hx rfl (hb hby at_222) rfl rfl ?_
      exact kt
    rcases own_and3 p5 with hf331 | hf331 | hf331 | hf331
    · obtain ⟨_, T332, L332, X332, hQ332, st332⟩ := own_cS X324 hx hZ hown hml (cw10 hw) (rm9_0 l Z a0 hw p5 b1 b3 w_DEFAULTCAPACITY_EMPTY_ELEMENTDATA T324.heap n0 OL324 hf331 pr46) rfl 224 #[iv p1, iv p2, iv p3, iv p4, iv p5, rv b1, rv b3, rv b5, rv b16, rv b27, rv v1, rv b322_0, rv b323, uu, uu] [(.int p5), (.ref b1), (.ref b3)] [] 0 rfl (hb hby at_224) (by decide)
      obtain ⟨b332_0, rfl, Nq332, K332, u332_0, u332_1, u332_2, u332_3, u332_4⟩ := hQ332
      have OL332 := OL324.keep K332 all0
      have g_b332_0 : n0 ≤ b332_0 := Nat.le_trans (Nat.le_trans (Nat.le_of_eq OL324.1.symm) OL324.2.1) u332_0
      have N332 := Fr.app N324 Nq332
      have fc334 := (u324_1.keep K332 nin0)
      have fc335 := (u324_2.keep K332 nin0)
      have fc336 := (u324_3.keep K332 nin0)
      have fc337 := (u324_4.keep K332 nin0)
      have fc338 := (u324_5.keep K332 nin0)
      have fc339 := ((A323.keep K324).keep K332)
      obtain ⟨_, T333, L333, X333, hQ333, st333⟩ := own_cV X332 hx hZ hown hml (cw18 hw) (rm32_0 l Z a0 hw b323 b332_0 b5 b16 v1 w_EMPTY_LIST T332.heap n0 OL332 fc334 fc335 fc336 fc337 fc338 u332_1 u332_4 pr47) rfl fc339 233 #[iv p1, iv p2, iv p3, iv p4, iv p5, rv b1, rv b3, rv b5, rv b16, rv b27, rv v1, rv b322_0, rv b323, rv b332_0, uu] [(.ref b332_0)] [] 0 rfl (hb hby at_233) (by decide)
      obtain ⟨b333_0, rfl, Nq333, K333, u333_0, u333_1, u333_2, u333_3, u333_4, u333_5, u333_6, u333_7⟩ := hQ333
      have OL333 := OL332.keep K333 all0
      have N333 := Fr.app N332 Nq333
      have fc341 := (u332_2.keep K333 nin0)
      have fc342 := (u332_1.keep K333)
      have fc343 := (u332_3.keep K333 nin0)
      have fc344 := (u332_4.keep K333 nin0)
      have fc345 := (((((fc320.keep K322).ext E323).keep K324).keep K332).keep K333)
      obtain ⟨_, T340, L340, X340, hQ340, st340⟩ := own_cV X333 hx hZ hown hml (cw23 hw) (rm14_0 l Z a0 hw b332_0 b1 w_DEFAULTCAPACITY_EMPTY_ELEMENTDATA k_w_DEFAULTCAPACITY_EMPTY_ELEMENTDATA T333.heap n0 OL333 fc341 fc342 g_b332_0 fc343 fc344 pr48 pr46 fc345) rfl fc342 242 #[iv p1, iv p2, iv p3, iv p4, iv p5, rv b1, rv b3, rv b5, rv b16, rv b27, rv v1, rv b322_0, rv b323, rv b332_0, rv b333_0] [(.ref b1)] [] 0 rfl (hb hby at_242) (by decide)
      obtain ⟨b340_0, kx340_0, rfl, Nq340, K340, u340_0, u340_1, u340_2, u340_3, u340_4, u340_5, u340_6⟩ := hQ340
      have OL340 := OL333.keep K340 (allS g_b332_0 all0)
      have N340 := Fr.app N333 Nq340
      have nz347 := (nl u322_6.lt (Nat.le_of_eq g323.symm))
      have lz348 := (lq fc327.lt K324.1)
      have nz349 := nl lz348 u332_0
      have fc350 := (((((u322_4.ext E323).keep K324 (ninS nz347 nin0)).keep K332 nin0).keep K333 nin0).keep K340 (ninS nz349 nin0))
      have fc351 := ((((fc325.keep K324).keep K332).keep K333).keep K340)
      have fc352 := ((((fc327.keep K324 (ninS nz347 nin0)).keep K332 nin0).keep K333 nin0).keep K340 (ninS nz349 nin0))
      have fc353 := ((((fc326.keep K324 (ninS nz347 nin0)).keep K332 nin0).keep K333 nin0).keep K340 (ninS nz349 nin0))
      have nz354 := (nl u322_9.lt (Nat.le_of_eq g323.symm))
      have lz355 := (lq fc329.lt K324.1)
      have nz356 := nl lz355 u332_0
      have fc357 := ((((fc329.keep K324 (ninS nz354 nin0)).keep K332 nin0).keep K333 nin0).keep K340 (ninS nz356 nin0))
      have fc358 := ((((((fc321.keep K322).ext E323).keep K324).keep K332).keep K333).keep K340)
      obtain ⟨_, T346, L346, X346, hQ346, st346⟩ := own_cV X340 hx hZ hown hml (cw23 hw) (rm14_1 l Z a0 hw b322_0 b3 b322_1 x319 kx322_0 T340.heap n0 OL340 fc350 fc351 g_b322_0 fc352 fc353 fc357 (Ne.symm u322_2) g_b322_1 u322_8 fc358 u322_2) rfl fc351 250 #[iv p1, iv p2, iv p3, iv p4, iv p5, rv b1, rv b3, rv b5, rv b16, rv b27, rv v1, rv b322_0, rv b323, rv b332_0, rv b333_0] [(.ref b3)] [] 0 rfl (hb hby at_250) (by decide)
      obtain ⟨rfl, Nq346, K346, u346_0, u346_1, u346_2, u346_3⟩ := hQ346
      have OL346 := OL340.keep K346 (allS g_b322_0 (allS g_b322_1 all0))
      have N346 := Fr.app N340 Nq346
      have nz360 := nl u332_4.lt u333_0
      have lz361 := (lq lz355 K332.1)
      have nz362 := nl lz361 u333_0
      have lz363 := (lq lz348 K332.1)
      have nz364 := nl lz363 u333_0
      have fc365 := ((u333_2.keep K340 (ninS (Ne.symm nz360) nin0)).keep K346 (ninS (Ne.symm nz364) (ninS (Ne.symm nz362) nin0)))
      have fc366 := ((u333_1.keep K340).keep K346)
      obtain ⟨_, T359, L359, X359, hQ359, st359⟩ := own_cV X346 hx hZ hown hml (cw24 hw) (rm34_0 l Z a0 hw b333_0 b5 T346.heap n0 OL346 fc365) rfl fc366 256 #[iv p1, iv p2, iv p3, iv p4, iv p5, rv b1, rv b3, rv b5, rv b16, rv b27, rv v1, rv b322_0, rv b323, rv b332_0, rv b333_0] [] [] 0 rfl (hb hby at_256) (by decide)
      obtain ⟨rfl, Nq359, ec359⟩ := hQ359
      have N359 := Fr.app N346 Nq359
      have fc368 := ((((((((((((((((((((((((((fc12.keep K11).ext E16).ext E17).wr W19).wr W21).keep K22).ext E27).wr W30).wr W33).wr W36).wr W39).wr W42).wr W45).wr W48).wr W51).wr W54).wr W57).wr W60).wr W63).keep K322).ext E323).keep K324).keep K332).keep K333).keep K340).keep K346)
      obtain ⟨_, T367, L367, X367, hQ367, st367⟩ := own_cV X359 hx hZ hown hml (cw25 hw) (rm35_0 l Z a0 hw b5 T346.heap n0 OL346 ) ec359 fc368 261 #[iv p1, iv p2, iv p3, iv p4, iv p5, rv b1, rv b3, rv b5, rv b16, rv b27, rv v1, rv b322_0, rv b323, rv b332_0, rv b333_0] [(.ref b5)] [] 0 rfl (hb hby at_261) (by decide)
      obtain ⟨rfl, Nq367, ec367⟩ := hQ367
      have N367 := Fr.app N359 Nq367
      have fc370 := ((u333_3.keep K340 (ninS (Ne.symm nz360) nin0)).keep K346 (ninS (Ne.symm nz364) (ninS (Ne.symm nz362) nin0)))
      obtain ⟨_, T369, L369, X369, hQ369, st369⟩ := own_cV X367 hx hZ hown hml (cw26 hw) (rm36_0 l Z a0 hw b333_0 b16 T346.heap n0 OL346 fc370) ec367 fc366 269 #[iv p1, iv p2, iv p3, iv p4, iv p5, rv b1, rv b3, rv b5, rv b16, rv b27, rv v1, rv b322_0, rv b323, rv b332_0, rv b333_0] [] [] 0 rfl (hb hby at_269) (by decide)
      obtain ⟨rfl, Nq369, ec369⟩ := hQ369
      have N369 := Fr.app N367 Nq369
      have fc372 := (((((((((((((((((((((fc23.keep K22).ext E27).wr W30).wr W33).wr W36).wr W39).wr W42).wr W45).wr W48).wr W51).wr W54).wr W57).wr W60).wr W63).keep K322).ext E323).keep K324).keep K332).keep K333).keep K340).keep K346)
      obtain ⟨_, T371, L371, X371, hQ371, st371⟩ := own_cV X369 hx hZ hown hml (cw25 hw) (rm35_0 l Z a0 hw b16 T346.heap n0 OL346 ) ec369 fc372 274 #[iv p1, iv p2, iv p3, iv p4, iv p5, rv b1, rv b3, rv b5, rv b16, rv b27, rv v1, rv b322_0, rv b323, rv b332_0, rv b333_0] [(.ref b16)] [] 0 rfl (hb hby at_274) (by decide)
      obtain ⟨rfl, Nq371, ec371⟩ := hQ371
      have N371 := Fr.app N369 Nq371
      have fc374 := ((u333_4.keep K340 (ninS (Ne.symm nz360) nin0)).keep K346 (ninS (Ne.symm nz364) (ninS (Ne.symm nz362) nin0)))
      obtain ⟨_, T373, L373, X373, hQ373, st373⟩ := own_cV X371 hx hZ hown hml (cw27 hw) (rm37_0 l Z a0 hw b333_0 v1 T346.heap n0 OL346 fc374) ec371 fc366 282 #[iv p1, iv p2, iv p3, iv p4, iv p5, rv b1, rv b3, rv b5, rv b16, rv b27, rv v1, rv b322_0, rv b323, rv b332_0, rv b333_0] [] [] 0 rfl (hb hby at_282) (by decide)
      obtain ⟨rfl, Nq373, ec373⟩ := hQ373
      have N373 := Fr.app N371 Nq373
      have fc376 := ((u333_5.keep K340 (ninS (Ne.symm nz360) nin0)).keep K346 (ninS (Ne.symm nz364) (ninS (Ne.symm nz362) nin0)))
      obtain ⟨_, T375, L375, X375, hQ375, st375⟩ := own_cV X373 hx hZ hown hml (cw28 hw) (rm38_0 l Z a0 hw b333_0 T346.heap n0 OL346 fc376) ec373 fc366 292 #[iv p1, iv p2, iv p3, iv p4, iv p5, rv b1, rv b3, rv b5, rv b16, rv b27, rv v1, rv b322_0, rv b323, rv b332_0, rv b333_0] [] [] 0 rfl (hb hby at_292) (by decide)
      obtain ⟨rfl, Nq375, ec375⟩ := hQ375
      have N375 := Fr.app N373 Nq375
      have fc378 := ((u333_6.keep K340 (ninS (Ne.symm nz360) nin0)).keep K346 (ninS (Ne.symm nz364) (ninS (Ne.symm nz362) nin0)))
      obtain ⟨_, T377, L377, X377, hQ377, st377⟩ := own_cV X375 hx hZ hown hml (cw29 hw) (rm39_0 l Z a0 hw b333_0 T346.heap n0 OL346 fc378) ec375 fc366 300 #[iv p1, iv p2, iv p3, iv p4, iv p5, rv b1, rv b3, rv b5, rv b16, rv b27, rv v1, rv b322_0, rv b323, rv b332_0, rv b333_0] [] [] 0 rfl (hb hby at_300) (by decide)
      obtain ⟨rfl, Nq377, ec377⟩ := hQ377
      have N377 := Fr.app N375 Nq377
      have fc380 := ((u333_7.keep K340 (ninS (Ne.symm nz360) nin0)).keep K346 (ninS (Ne.symm nz364) (ninS (Ne.symm nz362) nin0)))
      obtain ⟨_, T379, L379, X379, hQ379, st379⟩ := own_cV X377 hx hZ hown hml (cw30 hw) (rm40_0 l Z a0 hw b333_0 w_EMPTY_LIST T346.heap n0 OL346 fc380) ec377 fc366 308 #[iv p1, iv p2, iv p3, iv p4, iv p5, rv b1, rv b3, rv b5, rv b16, rv b27, rv v1, rv b322_0, rv b323, rv b332_0, rv b333_0] [] [] 0 rfl (hb hby at_308) (by decide)
      obtain ⟨rfl, Nq379, ec379⟩ := hQ379
      have N379 := Fr.app N377 Nq379
      obtain ⟨_, T381, L381, X381, hQ381, st381⟩ := own_cS X379 hx hZ hown hml (cw32 hw) (rm41_0 l Z a0 hw w_EMPTY_LIST p5 b1 b3 w_EMPTY_LIST__elements k_w_EMPTY_LIST__elements T346.heap n0 OL346 hf331 pr49 pr50 pr51) ec379 317 #[iv p1, iv p2, iv p3, iv p4, iv p5, rv b1, rv b3, rv b5, rv b16, rv b27, rv v1, rv b322_0, rv b323, rv b332_0, rv b333_0] [(.ref w_EMPTY_LIST), (.int p5), (.ref b1), (.ref b3)] [] 0 rfl (hb hby at_317) (by decide)
      obtain ⟨rfl, Nq381, ec381⟩ := hQ381
      have N381 := Fr.app N379 Nq381
      have nz383 := nl u324_6.lt u332_0
      have fc384 := ((((u324_6.keep K332 nin0).keep K333 nin0).keep K340 (ninS nz383 nin0)).keep K346 (ninS (Ne.symm nz347) (ninS (Ne.symm nz354) nin0)))
      have fc385 := (((fc339.keep K333).keep K340).keep K346)
      obtain ⟨_, T382, L382, X382, hQ382, st382⟩ := own_cV X381 hx hZ hown hml (cw30 hw) (rm40_1 l Z a0 hw b323 b324_0 T346.heap n0 OL346 fc384) ec381 fc385 325 #[iv p1, iv p2, iv p3, iv p4, iv p5, rv b1, rv b3, rv b5, rv b16, rv b27, rv v1, rv b322_0, rv b323, rv b332_0, rv b333_0] [] [] 0 rfl (hb hby at_325) (by decide)
      obtain ⟨rfl, Nq382, ec382⟩ := hQ382
      have N382 := Fr.app N381 Nq382
      have nz387 := nl u324_9.lt u332_0
      have nz388 := nl fc329.lt u324_0
      have nz389 := nl fc327.lt u324_0
      have fc390 := ((((u324_9.keep K332 nin0).keep K333 nin0).keep K340 (ninS nz387 nin0)).keep K346 (ninS (Ne.symm nz389) (ninS (Ne.symm nz388) nin0)))
      have fc391 := ((((u324_7.keep K332).keep K333).keep K340).keep K346)
      have fc392 := ((((u324_8.keep K332 nin0).keep K333 nin0).keep K340 (ninS nz387 nin0)).keep K346 (ninS (Ne.symm nz389) (ninS (Ne.symm nz388) nin0)))
      obtain ⟨_, T386, L386, X386, hQ386, st386⟩ := own_cS X382 hx hZ hown hml (cw32 hw) (rm41_1 l Z a0 hw b324_0 p4 b1 b3 w_EMPTY x319 T346.heap n0 OL346 hf65 fc390 pr53 fc391 fc392 hx319) ec382 333 #[iv p1, iv p2, iv p3, iv p4, iv p5, rv b1, rv b3, rv b5, rv b16, rv b27, rv v1, rv b322_0, rv b323, rv b332_0, rv b333_0] [(.ref b324_0), (.int p4), (.ref b1), (.ref b3)] [] 0 rfl (hb hby at_333) (by decide)
      obtain ⟨rfl, Nq386, ec386⟩ := hQ386
      have N386 := Fr.app N382 Nq386
      obtain ⟨fs, hr, hrun, hended, hW, hsame⟩ := X386.leave (v := some (.int (1 : Int32))) (fun h => by rw [Bd.returns] at h; cases h)
      refine ⟨_, _, pre331 _ ?_, hrun, hended, _, _, rfl, ⟨rfl, N386⟩, ⟨_, rfl⟩, hW, hsame.mono (by decide) (by decide)⟩
      refine st332 _ ?_
      show SS p e below T332 m 227 #[iv p1, iv p2, iv p3, iv p4, iv p5, rv b1, rv b3, rv b5, rv b16, rv b27, rv v1, rv b322_0, rv b323, uu, uu] [(.ref b332_0)] _
      refine XS.astore X332.here hx rfl (hb hby at_227) rfl rfl (l' := #[iv p1, iv p2, iv p3, iv p4, iv p5, rv b1, rv b3, rv b5, rv b16, rv b27, rv v1, rv b322_0, rv b323, rv b332_0, uu]) rfl ?_
      refine XS.aload X332.here hx rfl (hb hby at_229) rfl rfl ?_
      refine XS.aload X332.here hx rfl (hb hby at_231) rfl rfl ?_
      refine st333 _ ?_
      refine XS.astore X333.here hx rfl (hb hby at_236) rfl rfl (l' := #[iv p1, iv p2, iv p3, iv p4, iv p5, rv b1, rv b3, rv b5, rv b16, rv b27, rv v1, rv b322_0, rv b323, rv b332_0, rv b333_0]) rfl ?_
      refine XS.aload X333.here hx rfl (hb hby at_238) rfl rfl ?_
      refine XS.aload X333.here hx rfl (hb hby at_240) rfl rfl ?_
      refine st340 _ ?_
      refine XS.pop X340.here hx rfl (hb hby at_245) rfl rfl ?_
      refine XS.aload X340.here hx rfl (hb hby at_246) rfl rfl ?_
      show SS p e below T340 m 248 #[iv p1, iv p2, iv p3, iv p4, iv p5, rv b1, rv b3, rv b5, rv b16, rv b27, rv v1, rv b322_0, rv b323, rv b332_0, rv b333_0] [(.ref b322_0)] _
      refine XS.aload X340.here hx rfl (hb hby at_248) rfl rfl ?_
      refine st346 _ ?_
      refine XS.pop X346.here hx rfl (hb hby at_253) rfl rfl ?_
      refine XS.aload X346.here hx rfl (hb hby at_254) rfl rfl ?_
      refine st359 _ ?_
      refine XS.aload X359.here hx rfl (hb hby at_259) rfl rfl ?_
      refine st367 _ ?_
      refine XS.ifNo X367.here hx rfl (hb hby at_264) rfl ((if0 _ _).trans (feq (by decide : ¬ ((1 : Int32) = (0 : Int32)))).1) ?_
      refine XS.aload X367.here hx rfl (hb hby at_267) rfl rfl ?_
      refine st369 _ ?_
      show SS p e below T369 m 272 #[iv p1, iv p2, iv p3, iv p4, iv p5, rv b1, rv b3, rv b5, rv b16, rv b27, rv v1, rv b322_0, rv b323, rv b332_0, rv b333_0] [(.ref b16)] _
      refine XS.aload X369.here hx rfl (hb hby at_272) rfl rfl ?_
      refine st371 _ ?_
      refine XS.ifNo X371.here hx rfl (hb hby at_277) rfl ((if0 _ _).trans (feq (by decide : ¬ ((1 : Int32) = (0 : Int32)))).1) ?_
      refine XS.aload X371.here hx rfl (hb hby at_280) rfl rfl ?_
      refine st373 _ ?_
      refine XS.aload X373.here hx rfl (hb hby at_285) rfl rfl ?_
      refine Jvm.RoadKit.acmp (g := (mkF m 287 #[iv p1, iv p2, iv p3, iv p4, iv p5, rv b1, rv b3, rv b5, rv b16, rv b27, rv v1, rv b322_0, rv b323, rv b332_0, rv b333_0] [(.ref v1), (.ref v1)])) X373 hx rfl rfl rfl (pc0 := 287) (pc' := 290) (same := true) rfl (hb hby at_287) rfl (decide_eq_true rfl) (by decide) (by decide) ?_
      refine XS.aload X373.here hx rfl (hb hby at_290) rfl rfl ?_
      refine st375 _ ?_
      refine XS.ifnonnullNo X375.here hx rfl (hb hby at_295) rfl ?_
      show SS p e below T375 m 298 #[iv p1, iv p2, iv p3, iv p4, iv p5, rv b1, rv b3, rv b5, rv b16, rv b27, rv v1, rv b322_0, rv b323, rv b332_0, rv b333_0] [] _
      refine XS.aload X375.here hx rfl (hb hby at_298) rfl rfl ?_
      refine st377 _ ?_
      refine XS.ifnonnullNo X377.here hx rfl (hb hby at_303) rfl ?_
      refine XS.aload X377.here hx rfl (hb hby at_306) rfl rfl ?_
      refine st379 _ ?_
      refine XS.iload X379.here hx rfl (hb hby at_311) rfl ?_
      refine XS.aload X379.here hx rfl (hb hby at_313) rfl rfl ?_
      refine XS.aload X379.here hx rfl (hb hby at_315) rfl rfl ?_
      refine st381 _ ?_
      refine XS.ifNo X381.here hx rfl (hb hby at_320) rfl ((if0 _ _).trans (feq (by decide : ¬ ((1 : Int32) = (0 : Int32)))).1) ?_
      show SS p e below T381 m 323 #[iv p1, iv p2, iv p3, iv p4, iv p5, rv b1, rv b3, rv b5, rv b16, rv b27, rv v1, rv b322_0, rv b323, rv b332_0, rv b333_0] [] _
      refine XS.aload X381.here hx rfl (hb hby at_323) rfl rfl ?_
      refine st382 _ ?_
      refine XS.iloadN X382.here hx rfl (hb hby at_328) rfl ?_
      refine XS.aload X382.here hx rfl (hb hby at_329) rfl rfl ?_
      refine XS.aload X382.here hx rfl (hb hby at_331) rfl rfl ?_
      refine st386 _ ?_
      refine XS.ifNo X386.here hx rfl (hb hby at_336) rfl ((if0 _ _).trans (feq (by decide : ¬ ((1 : Int32) = (0 : Int32)))).1) ?_
      refine XS.iconst X386.here hx rfl (hb hby at_339) ?_
      refine XS.goto X386.here hx rfl (pc0 := 340) (pc' := 344) rfl (hb hby at_340) (by decide) (by decide) ?_
      show SS p e below T386 m 344 #[iv p1, iv p2, iv p3, iv p4, iv p5, rv b1, rv b3, rv b5, rv b16, rv b27, rv v1, rv b322_0, rv b323, rv b332_0, rv b333_0] [(.int (1 : Int32))] _
      exact retN X386 hx (t := .boolean) Bd.returns (by simp) (hb hby at_344) hr
    · obtain ⟨x393, hx393⟩ : ∃ w, (if (((p5.toUInt32 >>> ((2 : Int32) &&& 31).toUInt32).toInt32) &&& (1 : Int32)) = (0 : Int32) then b1 else b3) = w := ⟨_, rfl⟩
      have fc394 := (((fc320.keep K322).ext E323).keep K324)
      have fc395 := (((fc321.keep K322).ext E323).keep K324)
      have Ex393 := own_iteE hx393 fc394 fc395
      obtain ⟨_, T396, L396, X396, hQ396, st396⟩ := own_cS X324 hx hZ hown hml (cw10 hw) (rm9_1 l Z a0 hw p5 b1 b3 w_DEFAULTCAPACITY_EMPTY_ELEMENTDATA x393 k_w_DEFAULTCAPACITY_EMPTY_ELEMENTDATA T324.heap n0 OL324 hf331 pr46 hx393 pr48 Ex393) rfl 224 #[iv p1, iv p2, iv p3, iv p4, iv p5, rv b1, rv b3, rv b5, rv b16, rv b27, rv v1, rv b322_0, rv b323, uu, uu] [(.int p5), (.ref b1), (.ref b3)] [] 0 rfl (hb hby at_224) (by decide)
      obtain ⟨b396_0, b396_1, kx396_0, rfl, Nq396, K396, u396_0, u396_1, u396_2, u396_3, u396_4, u396_5, u396_6, u396_7, u396_8, u396_9⟩ := hQ396
      have OL396 := OL324.keep K396 all0
      have g_b396_0 : n0 ≤ b396_0 := Nat.le_trans (Nat.le_trans (Nat.le_of_eq OL324.1.symm) OL324.2.1) u396_0
      have g_b396_1 : n0 ≤ b396_1 := Nat.le_trans (Nat.le_trans (Nat.le_of_eq OL324.1.symm) OL324.2.1) u396_1
      have N396 := Fr.app N324 Nq396
      have fc398 := (u324_1.keep K396 nin0)
      have fc399 := (u324_2.keep K396 nin0)
      have fc400 := (u324_3.keep K396 nin0)
      have fc401 := (u324_4.keep K396 nin0)
      have fc402 := (u324_5.keep K396 nin0)
      have fc403 := (Ex393.keep K396)
      have fc404 := ((A323.keep K324).keep K396)
      obtain ⟨_, T397, L397, X397, hQ397, st397⟩ := own_cV X396 hx hZ hown hml (cw18 hw) (rm32_1 l Z a0 hw b323 b396_0 b5 b16 v1 b396_1 mir_objs x393 kx396_0 w_EMPTY T396.heap n0 OL396 fc398 fc399 fc400 fc401 fc402 u396_3 u396_6 u396_5 pr52 u396_9 u396_7 fc403 pr53) rfl fc404 233 #[iv p1, iv p2, iv p3, iv p4, iv p5, rv b1, rv b3, rv b5, rv b16, rv b27, rv v1, rv b322_0, rv b323, rv b396_0, uu] [(.ref b396_0)] [] 0 rfl (hb hby at_233) (by decide)
      obtain ⟨b397_0, b397_1, rfl, Nq397, K397, u397_0, u397_1, u397_2, u397_3, u397_4, u397_5, u397_6, u397_7, u397_8, u397_9, u397_10, u397_11, u397_12⟩ := hQ397
      have OL397 := OL396.keep K397 all0
      have N397 := Fr.app N396 Nq397
      have fc406 := (u396_4.keep K397 nin0)
      have fc407 := (u396_3.keep K397)
      have fc408 := (u396_5.keep K397 nin0)
      have fc409 := (u396_6.keep K397 nin0)
      have fc410 := (u396_7.keep K397 nin0)
      have fc411 := ((fc394.keep K396).keep K397)
      obtain ⟨_, T405, L405, X405, hQ405, st405⟩ := own_cV X397 hx hZ hown hml (cw23 hw) (rm14_1 l Z a0 hw b396_0 b1 b396_1 x393 kx396_0 T397.heap n0 OL397 fc406 fc407 g_b396_0 fc408 fc409 fc410 (Ne.symm u396_2) g_b396_1 u396_8 fc411 u396_2) rfl fc407 242 #[iv p1, iv p2, iv p3, iv p4, iv p5, rv b1, rv b3, rv b5, rv b16, rv b27, rv v1, rv b322_0, rv b323, rv b396_0, rv b397_0] [(.ref b1)] [] 0 rfl (hb hby at_242) (by decide)
      obtain ⟨rfl, Nq405, K405, u405_0, u405_1, u405_2, u405_3⟩ := hQ405
      have OL405 := OL397.keep K405 (allS g_b396_0 (allS g_b396_1 all0))
      have N405 := Fr.app N397 Nq405
      have nz413 := (nl u322_6.lt (Nat.le_of_eq g323.symm))
      have lz414 := (lq fc327.lt K324.1)
      have nz415 := nl lz414 u396_1
      have nz416 := nl lz414 u396_0
      have fc417 := (((((u322_4.ext E323).keep K324 (ninS nz413 nin0)).keep K396 nin0).keep K397 nin0).keep K405 (ninS nz416 (ninS nz415 nin0)))
      have fc418 := ((((fc325.keep K324).keep K396).keep K397).keep K405)
      have fc419 := ((((fc327.keep K324 (ninS nz413 nin0)).keep K396 nin0).keep K397 nin0).keep K405 (ninS nz416 (ninS nz415 nin0)))
      have fc420 := ((((fc326.keep K324 (ninS nz413 nin0)).keep K396 nin0).keep K397 nin0).keep K405 (ninS nz416 (ninS nz415 nin0)))
      have nz421 := (nl u322_9.lt (Nat.le_of_eq g323.symm))
      have lz422 := (lq fc329.lt K324.1)
      have nz423 := nl lz422 u396_1
      have nz424 := nl lz422 u396_0
      have fc425 := ((((fc329.keep K324 (ninS nz421 nin0)).keep K396 nin0).keep K397 nin0).keep K405 (ninS nz424 (ninS nz423 nin0)))
      have fc426 := (((fc395.keep K396).keep K397).keep K405)
      obtain ⟨_, T412, L412, X412, hQ412, st412⟩ := own_cV X405 hx hZ hown hml (cw23 hw) (rm14_1 l Z a0 hw b322_0 b3 b322_1 x319 kx322_0 T405.heap n0 OL405 fc417 fc418 g_b322_0 fc419 fc420 fc425 (Ne.symm u322_2) g_b322_1 u322_8 fc426 u322_2) rfl fc418 250 #[iv p1, iv p2, iv p3, iv p4, iv p5, rv b1, rv b3, rv b5, rv b16, rv b27, rv v1, rv b322_0, rv b323, rv b396_0, rv b397_0] [(.ref b3)] [] 0 rfl (hb hby at_250) (by decide)
      obtain ⟨rfl, Nq412, K412, u412_0, u412_1, u412_2, u412_3⟩ := hQ412
      have OL412 := OL405.keep K412 (allS g_b322_0 (allS g_b322_1 all0))
      have N412 := Fr.app N405 Nq412
      have nz428 := nl u396_9.lt u397_0
      have nz429 := nl u396_6.lt u397_0
      have lz430 := (lq lz422 K396.1)
      have nz431 := nl lz430 u397_0
      have lz432 := (lq lz414 K396.1)
      have nz433 := nl lz432 u397_0
      have fc434 := ((u397_4.keep K405 (ninS (Ne.symm nz429) (ninS (Ne.symm nz428) nin0))).keep K412 (ninS (Ne.symm nz433) (ninS (Ne.symm nz431) nin0)))
      have fc435 := ((u397_3.keep K405).keep K412)
      obtain ⟨_, T427, L427, X427, hQ427, st427⟩ := own_cV X412 hx hZ hown hml (cw24 hw) (rm34_0 l Z a0 hw b397_0 b5 T412.heap n0 OL412 fc434) rfl fc435 256 #[iv p1, iv p2, iv p3, iv p4, iv p5, rv b1, rv b3, rv b5, rv b16, rv b27, rv v1, rv b322_0, rv b323, rv b396_0, rv b397_0] [] [] 0 rfl (hb hby at_256) (by decide)
      obtain ⟨rfl, Nq427, ec427⟩ := hQ427
      have N427 := Fr.app N412 Nq427
      have fc437 := ((((((((((((((((((((((((((fc12.keep K11).ext E16).ext E17).wr W19).wr W21).keep K22).ext E27).wr W30).wr W33).wr W36).wr W39).wr W42).wr W45).wr W48).wr W51).wr W54).wr W57).wr W60).wr W63).keep K322).ext E323).keep K324).keep K396).keep K397).keep K405).keep K412)
      obtain ⟨_, T436, L436, X436, hQ436, st436⟩ := own_cV X427 hx hZ hown hml (cw25 hw) (rm35_0 l Z a0 hw b5 T412.heap n0 OL412 ) ec427 fc437 261 #[iv p1, iv p2, iv p3, iv p4, iv p5, rv b1, rv b3, rv b5, rv b16, rv b27, rv v1, rv b322_0, rv b323, rv b396_0, rv b397_0] [(.ref b5)] [] 0 rfl (hb hby at_261) (by decide)
      obtain ⟨rfl, Nq436, ec436⟩ := hQ436
      have N436 := Fr.app N427 Nq436
      have fc439 := ((u397_5.keep K405 (ninS (Ne.symm nz429) (ninS (Ne.symm nz428) nin0))).keep K412 (ninS (Ne.symm nz433) (ninS (Ne.symm nz431) nin0)))
      obtain ⟨_, T438, L438, X438, hQ438, st438⟩ := own_cV X436 hx hZ hown hml (cw26 hw) (rm36_0 l Z a0 hw b397_0 b16 T412.heap n0 OL412 fc439) ec436 fc435 269 #[iv p1, iv p2, iv p3, iv p4, iv p5, rv b1, rv b3, rv b5, rv b16, rv b27, rv v1, rv b322_0, rv b323, rv b396_0, rv b397_0] [] [] 0 rfl (hb hby at_269) (by decide)
      obtain ⟨rfl, Nq438, ec438⟩ := hQ438
      have N438 := Fr.app N436 Nq438
      have fc441 := (((((((((((((((((((((fc23.keep K22).ext E27).wr W30).wr W33).wr W36).wr W39).wr W42).wr W45).wr W48).wr W51).wr W54).wr W57).wr W60).wr W63).keep K322).ext E323).keep K324).keep K396).keep K397).keep K405).keep K412)
      obtain ⟨_, T440, L440, X440, hQ440, st440⟩ := own_cV X438 hx hZ hown hml (cw25 hw) (rm35_0 l Z a0 hw b16 T412.heap n0 OL412 ) ec438 fc441 274 #[iv p1, iv p2, iv p3, iv p4, iv p5, rv b1, rv b3, rv b5, rv b16, rv b27, rv v1, rv b322_0, rv b323, rv b396_0, rv b397_0] [(.ref b16)] [] 0 rfl (hb hby at_274) (by decide)
      obtain ⟨rfl, Nq440, ec440⟩ := hQ440
      have N440 := Fr.app N438 Nq440
      have fc443 := ((u397_6.keep K405 (ninS (Ne.symm nz429) (ninS (Ne.symm nz428) nin0))).keep K412 (ninS (Ne.symm nz433) (ninS (Ne.symm nz431) nin0)))
      obtain ⟨_, T442, L442, X442, hQ442, st442⟩ := own_cV X440 hx hZ hown hml (cw27 hw) (rm37_0 l Z a0 hw b397_0 v1 T412.heap n0 OL412 fc443) ec440 fc435 282 #[iv p1, iv p2, iv p3, iv p4, iv p5, rv b1, rv b3, rv b5, rv b16, rv b27, rv v1, rv b322_0, rv b323, rv b396_0, rv b397_0] [] [] 0 rfl (hb hby at_282) (by decide)
      obtain ⟨rfl, Nq442, ec442⟩ := hQ442
      have N442 := Fr.app N440 Nq442
      have fc445 := ((u397_7.keep K405 (ninS (Ne.symm nz429) (ninS (Ne.symm nz428) nin0))).keep K412 (ninS (Ne.symm nz433) (ninS (Ne.symm nz431) nin0)))
      obtain ⟨_, T444, L444, X444, hQ444, st444⟩ := own_cV X442 hx hZ hown hml (cw28 hw) (rm38_0 l Z a0 hw b397_0 T412.heap n0 OL412 fc445) ec442 fc435 292 #[iv p1, iv p2, iv p3, iv p4, iv p5, rv b1, rv b3, rv b5, rv b16, rv b27, rv v1, rv b322_0, rv b323, rv b396_0, rv b397_0] [] [] 0 rfl (hb hby at_292) (by decide)
      obtain ⟨rfl, Nq444, ec444⟩ := hQ444
      have N444 := Fr.app N442 Nq444
      have fc447 := ((u397_8.keep K405 (ninS (Ne.symm nz429) (ninS (Ne.symm nz428) nin0))).keep K412 (ninS (Ne.symm nz433) (ninS (Ne.symm nz431) nin0)))
      obtain ⟨_, T446, L446, X446, hQ446, st446⟩ := own_cV X444 hx hZ hown hml (cw29 hw) (rm39_0 l Z a0 hw b397_0 T412.heap n0 OL412 fc447) ec444 fc435 300 #[iv p1, iv p2, iv p3, iv p4, iv p5, rv b1, rv b3, rv b5, rv b16, rv b27, rv v1, rv b322_0, rv b323, rv b396_0, rv b397_0] [] [] 0 rfl (hb hby at_300) (by decide)
      obtain ⟨rfl, Nq446, ec446⟩ := hQ446
      have N446 := Fr.app N444 Nq446
      have fc449 := ((u397_9.keep K405 (ninS (Ne.symm nz429) (ninS (Ne.symm nz428) nin0))).keep K412 (ninS (Ne.symm nz433) (ninS (Ne.symm nz431) nin0)))
      obtain ⟨_, T448, L448, X448, hQ448, st448⟩ := own_cV X446 hx hZ hown hml (cw30 hw) (rm40_1 l Z a0 hw b397_0 b397_1 T412.heap n0 OL412 fc449) ec446 fc435 308 #[iv p1, iv p2, iv p3, iv p4, iv p5, rv b1, rv b3, rv b5, rv b16, rv b27, rv v1, rv b322_0, rv b323, rv b396_0, rv b397_0] [] [] 0 rfl (hb hby at_308) (by decide)
      obtain ⟨rfl, Nq448, ec448⟩ := hQ448
      have N448 := Fr.app N446 Nq448
      have nz451 := nl u396_9.lt u397_1
      have nz452 := nl u396_6.lt u397_1
      have nz453 := nl lz430 u397_1
      have nz454 := nl lz432 u397_1
      have fc455 := ((u397_12.keep K405 (ninS (Ne.symm nz452) (ninS (Ne.symm nz451) nin0))).keep K412 (ninS (Ne.symm nz454) (ninS (Ne.symm nz453) nin0)))
      have fc456 := ((u397_10.keep K405).keep K412)
      have fc457 := ((u397_11.keep K405 (ninS (Ne.symm nz452) (ninS (Ne.symm nz451) nin0))).keep K412 (ninS (Ne.symm nz454) (ninS (Ne.symm nz453) nin0)))
      obtain ⟨_, T450, L450, X450, hQ450, st450⟩ := own_cS X448 hx hZ hown hml (cw32 hw) (rm41_1 l Z a0 hw b397_1 p5 b1 b3 w_EMPTY x393 T412.heap n0 OL412 hf331 fc455 pr53 fc456 fc457 hx393) ec448 317 #[iv p1, iv p2, iv p3, iv p4, iv p5, rv b1, rv b3, rv b5, rv b16, rv b27, rv v1, rv b322_0, rv b323, rv b396_0, rv b397_0] [(.ref b397_1), (.int p5), (.ref b1), (.ref b3)] [] 0 rfl (hb hby at_317) (by decide)
      obtain ⟨rfl, Nq450, ec450⟩ := hQ450
      have N450 := Fr.app N448 Nq450
      have nz459 := nl u324_6.lt u396_1
      have nz460 := nl u324_6.lt u396_0
      have fc461 := ((((u324_6.keep K396 nin0).keep K397 nin0).keep K405 (ninS nz460 (ninS nz459 nin0))).keep K412 (ninS (Ne.symm nz413) (ninS (Ne.symm nz421) nin0)))
      have fc462 := (((fc404.keep K397).keep K405).keep K412)
      obtain ⟨_, T458, L458, X458, hQ458, st458⟩ := own_cV X450 hx hZ hown hml (cw30 hw) (rm40_1 l Z a0 hw b323 b324_0 T412.heap n0 OL412 fc461) ec450 fc462 325 #[iv p1, iv p2, iv p3, iv p4, iv p5, rv b1, rv b3, rv b5, rv b16, rv b27, rv v1, rv b322_0, rv b323, rv b396_0, rv b397_0] [] [] 0 rfl (hb hby at_325) (by decide)
      obtain ⟨rfl, Nq458, ec458⟩ := hQ458
      have N458 := Fr.app N450 Nq458
      have nz464 := nl u324_9.lt u396_1
      have nz465 := nl u324_9.lt u396_0
      have nz466 := nl fc329.lt u324_0
      have nz467 := nl fc327.lt u324_0
      have fc468 := ((((u324_9.keep K396 nin0).keep K397 nin0).keep K405 (ninS nz465 (ninS nz464 nin0))).keep K412 (ninS (Ne.symm nz467) (ninS (Ne.symm nz466) nin0)))
      have fc469 := ((((u324_7.keep K396).keep K397).keep K405).keep K412)
      have fc470 := ((((u324_8.keep K396 nin0).keep K397 nin0).keep K405 (ninS nz465 (ninS nz464 nin0))).keep K412 (ninS (Ne.symm nz467) (ninS (Ne.symm nz466) nin0)))
      obtain ⟨_, T463, L463, X463, hQ463, st463⟩ := own_cS X458 hx hZ hown hml (cw32 hw) (rm41_1 l Z a0 hw b324_0 p4 b1 b3 w_EMPTY x319 T412.heap n0 OL412 hf65 fc468 pr53 fc469 fc470 hx319) ec458 333 #[iv p1, iv p2, iv p3, iv p4, iv p5, rv b1, rv b3, rv b5, rv b16, rv b27, rv v1, rv b322_0, rv b323, rv b396_0, rv b397_0] [(.ref b324_0), (.int p4), (.ref b1), (.ref b3)] [] 0 rfl (hb hby at_333) (by decide)
      obtain ⟨rfl, Nq463, ec463⟩ := hQ463
      have N463 := Fr.app N458 Nq463
      obtain ⟨fs, hr, hrun, hended, hW, hsame⟩ := X463.leave (v := some (.int (1 : Int32))) (fun h => by rw [Bd.returns] at h; cases h)
      refine ⟨_, _, pre331 _ ?_, hrun, hended, _, _, rfl, ⟨rfl, N463⟩, ⟨_, rfl⟩, hW, hsame.mono (by decide) (by decide)⟩
      refine st396 _ ?_
      show SS p e below T396 m 227 #[iv p1, iv p2, iv p3, iv p4, iv p5, rv b1, rv b3, rv b5, rv b16, rv b27, rv v1, rv b322_0, rv b323, uu, uu] [(.ref b396_0)] _
      refine XS.astore X396.here hx rfl (hb hby at_227) rfl rfl (l' := #[iv p1, iv p2, iv p3, iv p4, iv p5, rv b1, rv b3, rv b5, rv b16, rv b27, rv v1, rv b322_0, rv b323, rv b396_0, uu]) rfl ?_
      refine XS.aload X396.here hx rfl (hb hby at_229) rfl rfl ?_
      refine XS.aload X396.here hx rfl (hb hby at_231) rfl rfl ?_
      refine st397 _ ?_
      refine XS.astore X397.here hx rfl (hb hby at_236) rfl rfl (l' := #[iv p1, iv p2, iv p3, iv p4, iv p5, rv b1, rv b3, rv b5, rv b16, rv b27, rv v1, rv b322_0, rv b323, rv b396_0, rv b397_0]) rfl ?_
      refine XS.aload X397.here hx rfl (hb hby at_238) rfl rfl ?_
      refine XS.aload X397.here hx rfl (hb hby at_240) rfl rfl ?_
      refine st405 _ ?_
      refine XS.pop X405.here hx rfl (hb hby at_245) rfl rfl ?_
      refine XS.aload X405.here hx rfl (hb hby at_246) rfl rfl ?_
      show SS p e below T405 m 248 #[iv p1, iv p2, iv p3, iv p4, iv p5, rv b1, rv b3, rv b5, rv b16, rv b27, rv v1, rv b322_0, rv b323, rv b396_0, rv b397_0] [(.ref b322_0)] _
      refine XS.aload X405.here hx rfl (hb hby at_248) rfl rfl ?_
      refine st412 _ ?_
      refine XS.pop X412.here hx rfl (hb hby at_253) rfl rfl ?_
      refine XS.aload X412.here hx rfl (hb hby at_254) rfl rfl ?_
      refine st427 _ ?_
      refine XS.aload X427.here hx rfl (hb hby at_259) rfl rfl ?_
      refine st436 _ ?_
      refine XS.ifNo X436.here hx rfl (hb hby at_264) rfl ((if0 _ _).trans (feq (by decide : ¬ ((1 : Int32) = (0 : Int32)))).1) ?_
      refine XS.aload X436.here hx rfl (hb hby at_267) rfl rfl ?_
      refine st438 _ ?_
      show SS p e below T438 m 272 #[iv p1, iv p2, iv p3, iv p4, iv p5, rv b1, rv b3, rv b5, rv b16, rv b27, rv v1, rv b322_0, rv b323, rv b396_0, rv b397_0] [(.ref b16)] _
      refine XS.aload X438.here hx rfl (hb hby at_272) rfl rfl ?_
      refine st440 _ ?_
      refine XS.ifNo X440.here hx rfl (hb hby at_277) rfl ((if0 _ _).trans (feq (by decide : ¬ ((1 : Int32) = (0 : Int32)))).1) ?_
      refine XS.aload X440.here hx rfl (hb hby at_280) rfl rfl ?_
      refine st442 _ ?_
      refine XS.aload X442.here hx rfl (hb hby at_285) rfl rfl ?_
      refine Jvm.RoadKit.acmp (g := (mkF m 287 #[iv p1, iv p2, iv p3, iv p4, iv p5, rv b1, rv b3, rv b5, rv b16, rv b27, rv v1, rv b322_0, rv b323, rv b396_0, rv b397_0] [(.ref v1), (.ref v1)])) X442 hx rfl rfl rfl (pc0 := 287) (pc' := 290) (same := true) rfl (hb hby at_287) rfl (decide_eq_true rfl) (by decide) (by decide) ?_
      refine XS.aload X442.here hx rfl (hb hby at_290) rfl rfl ?_
      refine st444 _ ?_
      refine XS.ifnonnullNo X444.here hx rfl (hb hby at_295) rfl ?_
      show SS p e below T444 m 298 #[iv p1, iv p2, iv p3, iv p4, iv p5, rv b1, rv b3, rv b5, rv b16, rv b27, rv v1, rv b322_0, rv b323, rv b396_0, rv b397_0] [] _
      refine XS.aload X444.here hx rfl (hb hby at_298) rfl rfl ?_
      refine st446 _ ?_
      refine XS.ifnonnullNo X446.here hx rfl (hb hby at_303) rfl ?_
      refine XS.aload X446.here hx rfl (hb hby at_306) rfl rfl ?_
      refine st448 _ ?_
      refine XS.iload X448.here hx rfl (hb hby at_311) rfl ?_
      refine XS.aload X448.here hx rfl (hb hby at_313) rfl rfl ?_
      refine XS.aload X448.here hx rfl (hb hby at_315) rfl rfl ?_
      refine st450 _ ?_
      refine XS.ifNo X450.here hx rfl (hb hby at_320) rfl ((if0 _ _).trans (feq (by decide : ¬ ((1 : Int32) = (0 : Int32)))).1) ?_
      show SS p e below T450 m 323 #[iv p1, iv p2, iv p3, iv p4, iv p5, rv b1, rv b3, rv b5, rv b16, rv b27, rv v1, rv b322_0, rv b323, rv b396_0, rv b397_0] [] _
      refine XS.aload X450.here hx rfl (hb hby at_323) rfl rfl ?_
      refine st458 _ ?_
      refine XS.iloadN X458.here hx rfl (hb hby at_328) rfl ?_
      refine XS.aload X458.here hx rfl (hb hby at_329) rfl rfl ?_
      refine XS.aload X458.here hx rfl (hb hby at_331) rfl rfl ?_
      refine st463 _ ?_
      refine XS.ifNo X463.here hx rfl (hb hby at_336) rfl ((if0 _ _).trans (feq (by decide : ¬ ((1 : Int32) = (0 : Int32)))).1) ?_
      refine XS.iconst X463.here hx rfl (hb hby at_339) ?_
      refine XS.goto X463.here hx rfl (pc0 := 340) (pc' := 344) rfl (hb hby at_340) (by decide) (by decide) ?_
      show SS p e below T463 m 344 #[iv p1, iv p2, iv p3, iv p4, iv p5, rv b1, rv b3, rv b5, rv b16, rv b27, rv v1, rv b322_0, rv b323, rv b396_0, rv b397_0] [(.int (1 : Int32))] _
      exact retN X463 hx (t := .boolean) Bd.returns (by simp) (hb hby at_344) hr
    · obtain ⟨x471, hx471⟩ : ∃ w, (if (((p5.toUInt32 >>> ((2 : Int32) &&& 31).toUInt32).toInt32) &&& (1 : Int32)) = (0 : Int32) then b1 else b3) = w := ⟨_, rfl⟩
      have fc472 := (((fc320.keep K322).ext E323).keep K324)
      have fc473 := (((fc321.keep K322).ext E323).keep K324)
      have Ex471 := own_iteE hx471 fc472 fc473
      obtain ⟨x474, hx474⟩ : ∃ w, (if (((p5.toUInt32 >>> ((3 : Int32) &&& 31).toUInt32).toInt32) &&& (1 : Int32)) = (0 : Int32) then b1 else b3) = w := ⟨_, rfl⟩
      have Ex474 := own_iteE hx474 fc472 fc473
      have Gx474 := own_iteG hx474 g_b1 g_b3
      obtain ⟨_, T475, L475, X475, hQ475, st475⟩ := own_cS X324 hx hZ hown hml (cw10 hw) (rm9_2 l Z a0 hw p5 b1 b3 w_DEFAULTCAPACITY_EMPTY_ELEMENTDATA x471 k_w_DEFAULTCAPACITY_EMPTY_ELEMENTDATA x474 T324.heap n0 OL324 hf331 pr46 hx471 pr48 Ex471 hx474 Ex474) rfl 224 #[iv p1, iv p2, iv p3, iv p4, iv p5, rv b1, rv b3, rv b5, rv b16, rv b27, rv v1, rv b322_0, rv b323, uu, uu] [(.int p5), (.ref b1), (.ref b3)] [] 0 rfl (hb hby at_224) (by decide)
      obtain ⟨b475_0, b475_1, kx475_0, rfl, Nq475, K475, u475_0, u475_1, u475_2, u475_3, u475_4, u475_5, u475_6, u475_7, u475_8, u475_9⟩ := hQ475
      have OL475 := OL324.keep K475 all0
      have g_b475_0 : n0 ≤ b475_0 := Nat.le_trans (Nat.le_trans (Nat.le_of_eq OL324.1.symm) OL324.2.1) u475_0
      have g_b475_1 : n0 ≤ b475_1 := Nat.le_trans (Nat.le_trans (Nat.le_of_eq OL324.1.symm) OL324.2.1) u475_1
      have N475 := Fr.app N324 Nq475
      have fc477 := (u324_1.keep K475 nin0)
      have fc478 := (u324_2.keep K475 nin0)
      have fc479 := (u324_3.keep K475 nin0)
      have fc480 := (u324_4.keep K475 nin0)
      have fc481 := (u324_5.keep K475 nin0)
      have fc482 := (Ex474.keep K475)
      have fc483 := (Ex471.keep K475)
      have fc484 := ((A323.keep K324).keep K475)
      obtain ⟨_, T476, L476, X476, hQ476, st476⟩ := own_cV X475 hx hZ hown hml (cw18 hw) (rm32_2 l Z a0 hw b323 b475_0 b5 b16 v1 b475_1 mir_objs x471 x474 kx475_0 T475.heap n0 OL475 fc477 fc478 fc479 fc480 fc481 u475_3 u475_6 u475_5 pr52 u475_9 u475_7 fc482 fc483) rfl fc484 233 #[iv p1, iv p2, iv p3, iv p4, iv p5, rv b1, rv b3, rv b5, rv b16, rv b27, rv v1, rv b322_0, rv b323, rv b475_0, uu] [(.ref b475_0)] [] 0 rfl (hb hby at_233) (by decide)
      obtain ⟨b476_0, b476_1, rfl, Nq476, K476, u476_0, u476_1, u476_2, u476_3, u476_4, u476_5, u476_6, u476_7, u476_8, u476_9, u476_10, u476_11, u476_12⟩ := hQ476
      have OL476 := OL475.keep K476 all0
      have N476 := Fr.app N475 Nq476
      have fc486 := (u475_4.keep K476 nin0)
      have fc487 := (u475_3.keep K476)
      have fc488 := (u475_5.keep K476 nin0)
      have fc489 := (u475_6.keep K476 nin0)
      have fc490 := (u475_7.keep K476 nin0)
      have fc491 := ((fc472.keep K475).keep K476)
      obtain ⟨_, T485, L485, X485, hQ485, st485⟩ := own_cV X476 hx hZ hown hml (cw23 hw) (rm14_2 l Z a0 hw b475_0 b1 b475_1 x471 x474 kx475_0 T476.heap n0 OL476 fc486 fc487 g_b475_0 fc488 fc489 fc490 (Ne.symm u475_2) g_b475_1 u475_8 fc491 u475_2) rfl fc487 242 #[iv p1, iv p2, iv p3, iv p4, iv p5, rv b1, rv b3, rv b5, rv b16, rv b27, rv v1, rv b322_0, rv b323, rv b475_0, rv b476_0] [(.ref b1)] [] 0 rfl (hb hby at_242) (by decide)
      obtain ⟨rfl, Nq485, K485, u485_0, u485_1, u485_2, u485_3⟩ := hQ485
      have OL485 := OL476.keep K485 (allS g_b475_0 (allS g_b475_1 all0))
      have N485 := Fr.app N476 Nq485
      have nz493 := (nl u322_6.lt (Nat.le_of_eq g323.symm))
      have lz494 := (lq fc327.lt K324.1)
      have nz495 := nl lz494 u475_1
      have nz496 := nl lz494 u475_0
      have fc497 := (((((u322_4.ext E323).keep K324 (ninS nz493 nin0)).keep K475 nin0).keep K476 nin0).keep K485 (ninS nz496 (ninS nz495 nin0)))
      have fc498 := ((((fc325.keep K324).keep K475).keep K476).keep K485)
      have fc499 := ((((fc327.keep K324 (ninS nz493 nin0)).keep K475 nin0).keep K476 nin0).keep K485 (ninS nz496 (ninS nz495 nin0)))
      have fc500 := ((((fc326.keep K324 (ninS nz493 nin0)).keep K475 nin0).keep K476 nin0).keep K485 (ninS nz496 (ninS nz495 nin0)))
      have nz501 := (nl u322_9.lt (Nat.le_of_eq g323.symm))
      have lz502 := (lq fc329.lt K324.1)
      have nz503 := nl lz502 u475_1
      have nz504 := nl lz502 u475_0
      have fc505 := ((((fc329.keep K324 (ninS nz501 nin0)).keep K475 nin0).keep K476 nin0).keep K485 (ninS nz504 (ninS nz503 nin0)))
      have fc506 := (((fc473.keep K475).keep K476).keep K485)
      obtain ⟨_, T492, L492, X492, hQ492, st492⟩ := own_cV X485 hx hZ hown hml (cw23 hw) (rm14_1 l Z a0 hw b322_0 b3 b322_1 x319 kx322_0 T485.heap n0 OL485 fc497 fc498 g_b322_0 fc499 fc500 fc505 (Ne.symm u322_2) g_b322_1 u322_8 fc506 u322_2) rfl fc498 250 #[iv p1, iv p2, iv p3, iv p4, iv p5, rv b1, rv b3, rv b5, rv b16, rv b27, rv v1, rv b322_0, rv b323, rv b475_0, rv b476_0] [(.ref b3)] [] 0 rfl (hb hby at_250) (by decide)
      obtain ⟨rfl, Nq492, K492, u492_0, u492_1, u492_2, u492_3⟩ := hQ492
      have OL492 := OL485.keep K492 (allS g_b322_0 (allS g_b322_1 all0))
      have N492 := Fr.app N485 Nq492
      have nz508 := nl u475_9.lt u476_0
      have nz509 := nl u475_6.lt u476_0
      have lz510 := (lq lz502 K475.1)
      have nz511 := nl lz510 u476_0
      have lz512 := (lq lz494 K475.1)
      have nz513 := nl lz512 u476_0
      have fc514 := ((u476_4.keep K485 (ninS (Ne.symm nz509) (ninS (Ne.symm nz508) nin0))).keep K492 (ninS (Ne.symm nz513) (ninS (Ne.symm nz511) nin0)))
      have fc515 := ((u476_3.keep K485).keep K492)
      obtain ⟨_, T507, L507, X507, hQ507, st507⟩ := own_cV X492 hx hZ hown hml (cw24 hw) (rm34_0 l Z a0 hw b476_0 b5 T492.heap n0 OL492 fc514) rfl fc515 256 #[iv p1, iv p2, iv p3, iv p4, iv p5, rv b1, rv b3, rv b5, rv b16, rv b27, rv v1, rv b322_0, rv b323, rv b475_0, rv b476_0] [] [] 0 rfl (hb hby at_256) (by decide)
      obtain ⟨rfl, Nq507, ec507⟩ := hQ507
      have N507 := Fr.app N492 Nq507
      have fc517 := ((((((((((((((((((((((((((fc12.keep K11).ext E16).ext E17).wr W19).wr W21).keep K22).ext E27).wr W30).wr W33).wr W36).wr W39).wr W42).wr W45).wr W48).wr W51).wr W54).wr W57).wr W60).wr W63).keep K322).ext E323).keep K324).keep K475).keep K476).keep K485).keep K492)
      obtain ⟨_, T516, L516, X516, hQ516, st516⟩ := own_cV X507 hx hZ hown hml (cw25 hw) (rm35_0 l Z a0 hw b5 T492.heap n0 OL492 ) ec507 fc517 261 #[iv p1, iv p2, iv p3, iv p4, iv p5, rv b1, rv b3, rv b5, rv b16, rv b27, rv v1, rv b322_0, rv b323, rv b475_0, rv b476_0] [(.ref b5)] [] 0 rfl (hb hby at_261) (by decide)
      obtain ⟨rfl, Nq516, ec516⟩ := hQ516
      have N516 := Fr.app N507 Nq516
      have fc519 := ((u476_5.keep K485 (ninS (Ne.symm nz509) (ninS (Ne.symm nz508) nin0))).keep K492 (ninS (Ne.symm nz513) (ninS (Ne.symm nz511) nin0)))
      obtain ⟨_, T518, L518, X518, hQ518, st518⟩ := own_cV X516 hx hZ hown hml (cw26 hw) (rm36_0 l Z a0 hw b476_0 b16 T492.heap n0 OL492 fc519) ec516 fc515 269 #[iv p1, iv p2, iv p3, iv p4, iv p5, rv b1, rv b3, rv b5, rv b16, rv b27, rv v1, rv b322_0, rv b323, rv b475_0, rv b476_0] [] [] 0 rfl (hb hby at_269) (by decide)
      obtain ⟨rfl, Nq518, ec518⟩ := hQ518
      have N518 := Fr.app N516 Nq518
      have fc521 := (((((((((((((((((((((fc23.keep K22).ext E27).wr W30).wr W33).wr W36).wr W39).wr W42).wr W45).wr W48).wr W51).wr W54).wr W57).wr W60).wr W63).keep K322).ext E323).keep K324).keep K475).keep K476).keep K485).keep K492)
      obtain ⟨_, T520, L520, X520, hQ520, st520⟩ := own_cV X518 hx hZ hown hml (cw25 hw) (rm35_0 l Z a0 hw b16 T492.heap n0 OL492 ) ec518 fc521 274 #[iv p1, iv p2, iv p3, iv p4, iv p5, rv b1, rv b3, rv b5, rv b16, rv b27, rv v1, rv b322_0, rv b323, rv b475_0, rv b476_0] [(.ref b16)] [] 0 rfl (hb hby at_274) (by decide)
      obtain ⟨rfl, Nq520, ec520⟩ := hQ520
      have N520 := Fr.app N518 Nq520
      have fc523 := ((u476_6.keep K485 (ninS (Ne.symm nz509) (ninS (Ne.symm nz508) nin0))).keep K492 (ninS (Ne.symm nz513) (ninS (Ne.symm nz511) nin0)))
      obtain ⟨_, T522, L522, X522, hQ522, st522⟩ := own_cV X520 hx hZ hown hml (cw27 hw) (rm37_0 l Z a0 hw b476_0 v1 T492.heap n0 OL492 fc523) ec520 fc515 282 #[iv p1, iv p2, iv p3, iv p4, iv p5, rv b1, rv b3, rv b5, rv b16, rv b27, rv v1, rv b322_0, rv b323, rv b475_0, rv b476_0] [] [] 0 rfl (hb hby at_282) (by decide)
      obtain ⟨rfl, Nq522, ec522⟩ := hQ522
      have N522 := Fr.app N520 Nq522
      have fc525 := ((u476_7.keep K485 (ninS (Ne.symm nz509) (ninS (Ne.symm nz508) nin0))).keep K492 (ninS (Ne.symm nz513) (ninS (Ne.symm nz511) nin0)))
      obtain ⟨_, T524, L524, X524, hQ524, st524⟩ := own_cV X522 hx hZ hown hml (cw28 hw) (rm38_0 l Z a0 hw b476_0 T492.heap n0 OL492 fc525) ec522 fc515 292 #[iv p1, iv p2, iv p3, iv p4, iv p5, rv b1, rv b3, rv b5, rv b16, rv b27, rv v1, rv b322_0, rv b323, rv b475_0, rv b476_0] [] [] 0 rfl (hb hby at_292) (by decide)
      obtain ⟨rfl, Nq524, ec524⟩ := hQ524
      have N524 := Fr.app N522 Nq524
      have fc527 := ((u476_8.keep K485 (ninS (Ne.symm nz509) (ninS (Ne.symm nz508) nin0))).keep K492 (ninS (Ne.symm nz513) (ninS (Ne.symm nz511) nin0)))
      obtain ⟨_, T526, L526, X526, hQ526, st526⟩ := own_cV X524 hx hZ hown hml (cw29 hw) (rm39_0 l Z a0 hw b476_0 T492.heap n0 OL492 fc527) ec524 fc515 300 #[iv p1, iv p2, iv p3, iv p4, iv p5, rv b1, rv b3, rv b5, rv b16, rv b27, rv v1, rv b322_0, rv b323, rv b475_0, rv b476_0] [] [] 0 rfl (hb hby at_300) (by decide)
      obtain ⟨rfl, Nq526, ec526⟩ := hQ526
      have N526 := Fr.app N524 Nq526
      have fc529 := ((u476_9.keep K485 (ninS (Ne.symm nz509) (ninS (Ne.symm nz508) nin0))).keep K492 (ninS (Ne.symm nz513) (ninS (Ne.symm nz511) nin0)))
      obtain ⟨_, T528, L528, X528, hQ528, st528⟩ := own_cV X526 hx hZ hown hml (cw30 hw) (rm40_1 l Z a0 hw b476_0 b476_1 T492.heap n0 OL492 fc529) ec526 fc515 308 #[iv p1, iv p2, iv p3, iv p4, iv p5, rv b1, rv b3, rv b5, rv b16, rv b27, rv v1, rv b322_0, rv b323, rv b475_0, rv b476_0] [] [] 0 rfl (hb hby at_308) (by decide)
      obtain ⟨rfl, Nq528, ec528⟩ := hQ528
      have N528 := Fr.app N526 Nq528
      have nz531 := nl u475_9.lt u476_1
      have nz532 := nl u475_6.lt u476_1
      have nz533 := nl lz510 u476_1
      have nz534 := nl lz512 u476_1
      have fc535 := ((u476_12.keep K485 (ninS (Ne.symm nz532) (ninS (Ne.symm nz531) nin0))).keep K492 (ninS (Ne.symm nz534) (ninS (Ne.symm nz533) nin0)))
      have fc536 := ((u476_10.keep K485).keep K492)
      have fc537 := ((u476_11.keep K485 (ninS (Ne.symm nz532) (ninS (Ne.symm nz531) nin0))).keep K492 (ninS (Ne.symm nz534) (ninS (Ne.symm nz533) nin0)))
      obtain ⟨_, T530, L530, X530, hQ530, st530⟩ := own_cS X528 hx hZ hown hml (cw32 hw) (rm41_2 l Z a0 hw b476_1 p5 b1 b3 x474 w_EMPTY x471 T492.heap n0 OL492 hf331 fc535 pr53 pr54 Gx474 fc536 fc537 hx471 hx474) ec528 317 #[iv p1, iv p2, iv p3, iv p4, iv p5, rv b1, rv b3, rv b5, rv b16, rv b27, rv v1, rv b322_0, rv b323, rv b475_0, rv b476_0] [(.ref b476_1), (.int p5), (.ref b1), (.ref b3)] [] 0 rfl (hb hby at_317) (by decide)
      obtain ⟨rfl, Nq530, ec530⟩ := hQ530
      have N530 := Fr.app N528 Nq530
      have nz539 := nl u324_6.lt u475_1
      have nz540 := nl u324_6.lt u475_0
      have fc541 := ((((u324_6.keep K475 nin0).keep K476 nin0).keep K485 (ninS nz540 (ninS nz539 nin0))).keep K492 (ninS (Ne.symm nz493) (ninS (Ne.symm nz501) nin0)))
      have fc542 := (((fc484.keep K476).keep K485).keep K492)
      obtain ⟨_, T538, L538, X538, hQ538, st538⟩ := own_cV X530 hx hZ hown hml (cw30 hw) (rm40_1 l Z a0 hw b323 b324_0 T492.heap n0 OL492 fc541) ec530 fc542 325 #[iv p1, iv p2, iv p3, iv p4, iv p5, rv b1, rv b3, rv b5, rv b16, rv b27, rv v1, rv b322_0, rv b323, rv b475_0, rv b476_0] [] [] 0 rfl (hb hby at_325) (by decide)
      obtain ⟨rfl, Nq538, ec538⟩ := hQ538
      have N538 := Fr.app N530 Nq538
      have nz544 := nl u324_9.lt u475_1
      have nz545 := nl u324_9.lt u475_0
      have nz546 := nl fc329.lt u324_0
      have nz547 := nl fc327.lt u324_0
      have fc548 := ((((u324_9.keep K475 nin0).keep K476 nin0).keep K485 (ninS nz545 (ninS nz544 nin0))).keep K492 (ninS (Ne.symm nz547) (ninS (Ne.symm nz546) nin0)))
      have fc549 := ((((u324_7.keep K475).keep K476).keep K485).keep K492)
      have fc550 := ((((u324_8.keep K475 nin0).keep K476 nin0).keep K485 (ninS nz545 (ninS nz544 nin0))).keep K492 (ninS (Ne.symm nz547) (ninS (Ne.symm nz546) nin0)))
      obtain ⟨_, T543, L543, X543, hQ543, st543⟩ := own_cS X538 hx hZ hown hml (cw32 hw) (rm41_1 l Z a0 hw b324_0 p4 b1 b3 w_EMPTY x319 T492.heap n0 OL492 hf65 fc548 pr53 fc549 fc550 hx319) ec538 333 #[iv p1, iv p2, iv p3, iv p4, iv p5, rv b1, rv b3, rv b5, rv b16, rv b27, rv v1, rv b322_0, rv b323, rv b475_0, rv b476_0] [(.ref b324_0), (.int p4), (.ref b1), (.ref b3)] [] 0 rfl (hb hby at_333) (by decide)
      obtain ⟨rfl, Nq543, ec543⟩ := hQ543
      have N543 := Fr.app N538 Nq543
      obtain ⟨fs, hr, hrun, hended, hW, hsame⟩ := X543.leave (v := some (.int (1 : Int32))) (fun h => by rw [Bd.returns] at h; cases h)
      refine ⟨_, _, pre331 _ ?_, hrun, hended, _, _, rfl, ⟨rfl, N543⟩, ⟨_, rfl⟩, hW, hsame.mono (by decide) (by decide)⟩
      refine st475 _ ?_
      show SS p e below T475 m 227 #[iv p1, iv p2, iv p3, iv p4, iv p5, rv b1, rv b3, rv b5, rv b16, rv b27, rv v1, rv b322_0, rv b323, uu, uu] [(.ref b475_0)] _
      refine XS.astore X475.here hx rfl (hb hby at_227) rfl rfl (l' := #[iv p1, iv p2, iv p3, iv p4, iv p5, rv b1, rv b3, rv b5, rv b16, rv b27, rv v1, rv b322_0, rv b323, rv b475_0, uu]) rfl ?_
      refine XS.aload X475.here hx rfl (hb hby at_229) rfl rfl ?_
      refine XS.aload X475.here hx rfl (hb hby at_231) rfl rfl ?_
      refine st476 _ ?_
      refine XS.astore X476.here hx rfl (hb hby at_236) rfl rfl (l' := #[iv p1, iv p2, iv p3, iv p4, iv p5, rv b1, rv b3, rv b5, rv b16, rv b27, rv v1, rv b322_0, rv b323, rv b475_0, rv b476_0]) rfl ?_
      refine XS.aload X476.here hx rfl (hb hby at_238) rfl rfl ?_
      refine XS.aload X476.here hx rfl (hb hby at_240) rfl rfl ?_
      refine st485 _ ?_
      refine XS.pop X485.here hx rfl (hb hby at_245) rfl rfl ?_
      refine XS.aload X485.here hx rfl (hb hby at_246) rfl rfl ?_
      show SS p e below T485 m 248 #[iv p1, iv p2, iv p3, iv p4, iv p5, rv b1, rv b3, rv b5, rv b16, rv b27, rv v1, rv b322_0, rv b323, rv b475_0, rv b476_0] [(.ref b322_0)] _
      refine XS.aload X485.here hx rfl (hb hby at_248) rfl rfl ?_
      refine st492 _ ?_
      refine XS.pop X492.here hx rfl (hb hby at_253) rfl rfl ?_
      refine XS.aload X492.here hx rfl (hb hby at_254) rfl rfl ?_
      refine st507 _ ?_
      refine XS.aload X507.here hx rfl (hb hby at_259) rfl rfl ?_
      refine st516 _ ?_
      refine XS.ifNo X516.here hx rfl (hb hby at_264) rfl ((if0 _ _).trans (feq (by decide : ¬ ((1 : Int32) = (0 : Int32)))).1) ?_
      refine XS.aload X516.here hx rfl (hb hby at_267) rfl rfl ?_
      refine st518 _ ?_
      show SS p e below T518 m 272 #[iv p1, iv p2, iv p3, iv p4, iv p5, rv b1, rv b3, rv b5, rv b16, rv b27, rv v1, rv b322_0, rv b323, rv b475_0, rv b476_0] [(.ref b16)] _
      refine XS.aload X518.here hx rfl (hb hby at_272) rfl rfl ?_
      refine st520 _ ?_
      refine XS.ifNo X520.here hx rfl (hb hby at_277) rfl ((if0 _ _).trans (feq (by decide : ¬ ((1 : Int32) = (0 : Int32)))).1) ?_
      refine XS.aload X520.here hx rfl (hb hby at_280) rfl rfl ?_
      refine st522 _ ?_
      refine XS.aload X522.here hx rfl (hb hby at_285) rfl rfl ?_
      refine Jvm.RoadKit.acmp (g := (mkF m 287 #[iv p1, iv p2, iv p3, iv p4, iv p5, rv b1, rv b3, rv b5, rv b16, rv b27, rv v1, rv b322_0, rv b323, rv b475_0, rv b476_0] [(.ref v1), (.ref v1)])) X522 hx rfl rfl rfl (pc0 := 287) (pc' := 290) (same := true) rfl (hb hby at_287) rfl (decide_eq_true rfl) (by decide) (by decide) ?_
      refine XS.aload X522.here hx rfl (hb hby at_290) rfl rfl ?_
      refine st524 _ ?_
      refine XS.ifnonnullNo X524.here hx rfl (hb hby at_295) rfl ?_
      show SS p e below T524 m 298 #[iv p1, iv p2, iv p3, iv p4, iv p5, rv b1, rv b3, rv b5, rv b16, rv b27, rv v1, rv b322_0, rv b323, rv b475_0, rv b476_0] [] _
      refine XS.aload X524.here hx rfl (hb hby at_298) rfl rfl ?_
      refine st526 _ ?_
      refine XS.ifnonnullNo X526.here hx rfl (hb hby at_303) rfl ?_
      refine XS.aload X526.here hx rfl (hb hby at_306) rfl rfl ?_
      refine st528 _ ?_
      refine XS.iload X528.here hx rfl (hb hby at_311) rfl ?_
      refine XS.aload X528.here hx rfl (hb hby at_313) rfl rfl ?_
      refine XS.aload X528.here hx rfl (hb hby at_315) rfl rfl ?_
      refine st530 _ ?_
      refine XS.ifNo X530.here hx rfl (hb hby at_320) rfl ((if0 _ _).trans (feq (by decide : ¬ ((1 : Int32) = (0 : Int32)))).1) ?_
      show SS p e below T530 m 323 #[iv p1, iv p2, iv p3, iv p4, iv p5, rv b1, rv b3, rv b5, rv b16, rv b27, rv v1, rv b322_0, rv b323, rv b475_0, rv b476_0] [] _
      refine XS.aload X530.here hx rfl (hb hby at_323) rfl rfl ?_
      refine st538 _ ?_
      refine XS.iloadN X538.here hx rfl (hb hby at_328) rfl ?_
      refine XS.aload X538.here hx rfl (hb hby at_329) rfl rfl ?_
      refine XS.aload X538.here hx rfl (hb hby at_331) rfl rfl ?_
      refine st543 _ ?_
      refine XS.ifNo X543.here hx rfl (hb hby at_336) rfl ((if0 _ _).trans (feq (by decide : ¬ ((1 : Int32) = (0 : Int32)))).1) ?_
      refine XS.iconst X543.here hx rfl (hb hby at_339) ?_
      refine XS.goto X543.here hx rfl (pc0 := 340) (pc' := 344) rfl (hb hby at_340) (by decide) (by decide) ?_
      show SS p e below T543 m 344 #[iv p1, iv p2, iv p3, iv p4, iv p5, rv b1, rv b3, rv b5, rv b16, rv b27, rv v1, rv b322_0, rv b323, rv b475_0, rv b476_0] [(.int (1 : Int32))] _
      exact retN X543 hx (t := .boolean) Bd.returns (by simp) (hb hby at_344) hr
    · obtain ⟨x551, hx551⟩ : ∃ w, (if (((p5.toUInt32 >>> ((2 : Int32) &&& 31).toUInt32).toInt32) &&& (1 : Int32)) = (0 : Int32) then b1 else b3) = w := ⟨_, rfl⟩
      have fc552 := (((fc320.keep K322).ext E323).keep K324)
      have fc553 := (((fc321.keep K322).ext E323).keep K324)
      have Ex551 := own_iteE hx551 fc552 fc553
      obtain ⟨x554, hx554⟩ : ∃ w, (if (((p5.toUInt32 >>> ((3 : Int32) &&& 31).toUInt32).toInt32) &&& (1 : Int32)) = (0 : Int32) then b1 else b3) = w := ⟨_, rfl⟩
      have Ex554 := own_iteE hx554 fc552 fc553
      obtain ⟨x555, hx555⟩ : ∃ w, (if (((p5.toUInt32 >>> ((4 : Int32) &&& 31).toUInt32).toInt32) &&& (1 : Int32)) = (0 : Int32) then b1 else b3) = w := ⟨_, rfl⟩
      have Ex555 := own_iteE hx555 fc552 fc553
      obtain ⟨_, T556, L556, X556, hQ556, st556⟩ := own_cS X324 hx hZ hown hml (cw10 hw) (rm9_3 l Z a0 hw p5 b1 b3 w_DEFAULTCAPACITY_EMPTY_ELEMENTDATA x551 k_w_DEFAULTCAPACITY_EMPTY_ELEMENTDATA x554 x555 T324.heap n0 OL324 hf331 pr46 hx551 pr48 Ex551 hx554 Ex554 hx555 Ex555) rfl 224 #[iv p1, iv p2, iv p3, iv p4, iv p5, rv b1, rv b3, rv b5, rv b16, rv b27, rv v1, rv b322_0, rv b323, uu, uu] [(.int p5), (.ref b1), (.ref b3)] [] 0 rfl (hb hby at_224) (by decide)
      obtain ⟨b556_0, b556_1, kx556_0, rfl, Nq556, K556, u556_0, u556_1, u556_2, u556_3, u556_4, u556_5, u556_6, u556_7, u556_8, u556_9⟩ := hQ556
      have OL556 := OL324.keep K556 all0
      have g_b556_0 : n0 ≤ b556_0 := Nat.le_trans (Nat.le_trans (Nat.le_of_eq OL324.1.symm) OL324.2.1) u556_0
      have g_b556_1 : n0 ≤ b556_1 := Nat.le_trans (Nat.le_trans (Nat.le_of_eq OL324.1.symm) OL324.2.1) u556_1
      have N556 := Fr.app N324 Nq556
      have fc558 := (u324_1.keep K556 nin0)
      have fc559 := (u324_2.keep K556 nin0)
      have fc560 := (u324_3.keep K556 nin0)
      have fc561 := (u324_4.keep K556 nin0)
      have fc562 := (u324_5.keep K556 nin0)
      have fc563 := (Ex555.keep K556)
      have fc564 := (Ex554.keep K556)
      have fc565 := (Ex551.keep K556)
      have fc566 := ((A323.keep K324).keep K556)
      obtain ⟨_, T557, L557, X557, hQ557, st557⟩ := own_cV X556 hx hZ hown hml (cw18 hw) (rm32_3 l Z a0 hw b323 b556_0 b5 b16 v1 b556_1 mir_objs x551 x554 x555 kx556_0 T556.heap n0 OL556 fc558 fc559 fc560 fc561 fc562 u556_3 u556_6 u556_5 pr52 u556_9 u556_7 fc563 fc564 fc565) rfl fc566 233 #[iv p1, iv p2, iv p3, iv p4, iv p5, rv b1, rv b3, rv b5, rv b16, rv b27, rv v1, rv b322_0, rv b323, rv b556_0, uu] [(.ref b556_0)] [] 0 rfl (hb hby at_233) (by decide)
      obtain ⟨b557_0, b557_1, b557_2, kx557_0, rfl, Nq557, K557, u557_0, u557_1, u557_2, u557_3, u557_4, u557_5, u557_6, u557_7, u557_8, u557_9, u557_10, u557_11, u557_12, u557_13, u557_14, u557_15, u557_16, u557_17, u557_18⟩ := hQ557
      have OL557 := OL556.keep K557 all0
      have N557 := Fr.app N556 Nq557
      have fc568 := (u556_4.keep K557 nin0)
      have fc569 := (u556_3.keep K557)
      have fc570 := (u556_5.keep K557 nin0)
      have fc571 := (u556_6.keep K557 nin0)
      have fc572 := (u556_7.keep K557 nin0)
      have fc573 := ((fc552.keep K556).keep K557)
      obtain ⟨_, T567, L567, X567, hQ567, st567⟩ := own_cV X557 hx hZ hown hml (cw23 hw) (rm14_3 l Z a0 hw b556_0 b1 b556_1 x551 x554 x555 kx556_0 T557.heap n0 OL557 fc568 fc569 g_b556_0 fc570 fc571 fc572 (Ne.symm u556_2) g_b556_1 u556_8 fc573 u556_2) rfl fc569 242 #[iv p1, iv p2, iv p3, iv p4, iv p5, rv b1, rv b3, rv b5, rv b16, rv b27, rv v1, rv b322_0, rv b323, rv b556_0, rv b557_0] [(.ref b1)] [] 0 rfl (hb hby at_242) (by decide)
      obtain ⟨rfl, Nq567, K567, u567_0, u567_1, u567_2, u567_3⟩ := hQ567
      have OL567 := OL557.keep K567 (allS g_b556_0 (allS g_b556_1 all0))
      have N567 := Fr.app N557 Nq567
      have nz575 := (nl u322_6.lt (Nat.le_of_eq g323.symm))
      have lz576 := (lq fc327.lt K324.1)
      have nz577 := nl lz576 u556_1
      have nz578 := nl lz576 u556_0
      have fc579 := (((((u322_4.ext E323).keep K324 (ninS nz575 nin0)).keep K556 nin0).keep K557 nin0).keep K567 (ninS nz578 (ninS nz577 nin0)))
      have fc580 := ((((fc325.keep K324).keep K556).keep K557).keep K567)
      have fc581 := ((((fc327.keep K324 (ninS nz575 nin0)).keep K556 nin0).keep K557 nin0).keep K567 (ninS nz578 (ninS nz577 nin0)))
      have fc582 := ((((fc326.keep K324 (ninS nz575 nin0)).keep K556 nin0).keep K557 nin0).keep K567 (ninS nz578 (ninS nz577 nin0)))
      have nz583 := (nl u322_9.lt (Nat.le_of_eq g323.symm))
      have lz584 := (lq fc329.lt K324.1)
      have nz585 := nl lz584 u556_1
      have nz586 := nl lz584 u556_0
      have fc587 := ((((fc329.keep K324 (ninS nz583 nin0)).keep K556 nin0).keep K557 nin0).keep K567 (ninS nz586 (ninS nz585 nin0)))
      have fc588 := (((fc553.keep K556).keep K557).keep K567)
      obtain ⟨_, T574, L574, X574, hQ574, st574⟩ := own_cV X567 hx hZ hown hml (cw23 hw) (rm14_1 l Z a0 hw b322_0 b3 b322_1 x319 kx322_0 T567.heap n0 OL567 fc579 fc580 g_b322_0 fc581 fc582 fc587 (Ne.symm u322_2) g_b322_1 u322_8 fc588 u322_2) rfl fc580 250 #[iv p1, iv p2, iv p3, iv p4, iv p5, rv b1, rv b3, rv b5, rv b16, rv b27, rv v1, rv b322_0, rv b323, rv b556_0, rv b557_0] [(.ref b3)] [] 0 rfl (hb hby at_250) (by decide)
      obtain ⟨rfl, Nq574, K574, u574_0, u574_1, u574_2, u574_3⟩ := hQ574
      have OL574 := OL567.keep K574 (allS g_b322_0 (allS g_b322_1 all0))
      have N574 := Fr.app N567 Nq574
      have nz590 := nl u556_9.lt u557_0
      have nz591 := nl u556_6.lt u557_0
      have lz592 := (lq lz584 K556.1)
      have nz593 := nl lz592 u557_0
      have lz594 := (lq lz576 K556.1)
      have nz595 := nl lz594 u557_0
      have fc596 := ((u557_7.keep K567 (ninS (Ne.symm nz591) (ninS (Ne.symm nz590) nin0))).keep K574 (ninS (Ne.symm nz595) (ninS (Ne.symm nz593) nin0)))
      have fc597 := ((u557_6.keep K567).keep K574)
      obtain ⟨_, T589, L589, X589, hQ589, st589⟩ := own_cV X574 hx hZ hown hml (cw24 hw) (rm34_0 l Z a0 hw b557_0 b5 T574.heap n0 OL574 fc596) rfl fc597 256 #[iv p1, iv p2, iv p3, iv p4, iv p5, rv b1, rv b3, rv b5, rv b16, rv b27, rv v1, rv b322_0, rv b323, rv b556_0, rv b557_0] [] [] 0 rfl (hb hby at_256) (by decide)
      obtain ⟨rfl, Nq589, ec589⟩ := hQ589
      have N589 := Fr.app N574 Nq589
      have fc599 := ((((((((((((((((((((((((((fc12.keep K11).ext E16).ext E17).wr W19).wr W21).keep K22).ext E27).wr W30).wr W33).wr W36).wr W39).wr W42).wr W45).wr W48).wr W51).wr W54).wr W57).wr W60).wr W63).keep K322).ext E323).keep K324).keep K556).keep K557).keep K567).keep K574)
      obtain ⟨_, T598, L598, X598, hQ598, st598⟩ := own_cV X589 hx hZ hown hml (cw25 hw) (rm35_0 l Z a0 hw b5 T574.heap n0 OL574 ) ec589 fc599 261 #[iv p1, iv p2, iv p3, iv p4, iv p5, rv b1, rv b3, rv b5, rv b16, rv b27, rv v1, rv b322_0, rv b323, rv b556_0, rv b557_0] [(.ref b5)] [] 0 rfl (hb hby at_261) (by decide)
      obtain ⟨rfl, Nq598, ec598⟩ := hQ598
      have N598 := Fr.app N589 Nq598
      have fc601 := ((u557_8.keep K567 (ninS (Ne.symm nz591) (ninS (Ne.symm nz590) nin0))).keep K574 (ninS (Ne.symm nz595) (ninS (Ne.symm nz593) nin0)))
      obtain ⟨_, T600, L600, X600, hQ600, st600⟩ := own_cV X598 hx hZ hown hml (cw26 hw) (rm36_0 l Z a0 hw b557_0 b16 T574.heap n0 OL574 fc601) ec598 fc597 269 #[iv p1, iv p2, iv p3, iv p4, iv p5, rv b1, rv b3, rv b5, rv b16, rv b27, rv v1, rv b322_0, rv b323, rv b556_0, rv b557_0] [] [] 0 rfl (hb hby at_269) (by decide)
      obtain ⟨rfl, Nq600, ec600⟩ := hQ600
      have N600 := Fr.app N598 Nq600
      have fc603 := (((((((((((((((((((((fc23.keep K22).ext E27).wr W30).wr W33).wr W36).wr W39).wr W42).wr W45).wr W48).wr W51).wr W54).wr W57).wr W60).wr W63).keep K322).ext E323).keep K324).keep K556).keep K557).keep K567).keep K574)
      obtain ⟨_, T602, L602, X602, hQ602, st602⟩ := own_cV X600 hx hZ hown hml (cw25 hw) (rm35_0 l Z a0 hw b16 T574.heap n0 OL574 ) ec600 fc603 274 #[iv p1, iv p2, iv p3, iv p4, iv p5, rv b1, rv b3, rv b5, rv b16, rv b27, rv v1, rv b322_0, rv b323, rv b556_0, rv b557_0] [(.ref b16)] [] 0 rfl (hb hby at_274) (by decide)
      obtain ⟨rfl, Nq602, ec602⟩ := hQ602
      have N602 := Fr.app N600 Nq602
      have fc605 := ((u557_9.keep K567 (ninS (Ne.symm nz591) (ninS (Ne.symm nz590) nin0))).keep K574 (ninS (Ne.symm nz595) (ninS (Ne.symm nz593) nin0)))
      obtain ⟨_, T604, L604, X604, hQ604, st604⟩ := own_cV X602 hx hZ hown hml (cw27 hw) (rm37_0 l Z a0 hw b557_0 v1 T574.heap n0 OL574 fc605) ec602 fc597 282 #[iv p1, iv p2, iv p3, iv p4, iv p5, rv b1, rv b3, rv b5, rv b16, rv b27, rv v1, rv b322_0, rv b323, rv b556_0, rv b557_0] [] [] 0 rfl (hb hby at_282) (by decide)
      obtain ⟨rfl, Nq604, ec604⟩ := hQ604
      have N604 := Fr.app N602 Nq604
      have fc607 := ((u557_10.keep K567 (ninS (Ne.symm nz591) (ninS (Ne.symm nz590) nin0))).keep K574 (ninS (Ne.symm nz595) (ninS (Ne.symm nz593) nin0)))
      obtain ⟨_, T606, L606, X606, hQ606, st606⟩ := own_cV X604 hx hZ hown hml (cw28 hw) (rm38_0 l Z a0 hw b557_0 T574.heap n0 OL574 fc607) ec604 fc597 292 #[iv p1, iv p2, iv p3, iv p4, iv p5, rv b1, rv b3, rv b5, rv b16, rv b27, rv v1, rv b322_0, rv b323, rv b556_0, rv b557_0] [] [] 0 rfl (hb hby at_292) (by decide)
      obtain ⟨rfl, Nq606, ec606⟩ := hQ606
      have N606 := Fr.app N604 Nq606
      have fc609 := ((u557_11.keep K567 (ninS (Ne.symm nz591) (ninS (Ne.symm nz590) nin0))).keep K574 (ninS (Ne.symm nz595) (ninS (Ne.symm nz593) nin0)))
      obtain ⟨_, T608, L608, X608, hQ608, st608⟩ := own_cV X606 hx hZ hown hml (cw29 hw) (rm39_0 l Z a0 hw b557_0 T574.heap n0 OL574 fc609) ec606 fc597 300 #[iv p1, iv p2, iv p3, iv p4, iv p5, rv b1, rv b3, rv b5, rv b16, rv b27, rv v1, rv b322_0, rv b323, rv b556_0, rv b557_0] [] [] 0 rfl (hb hby at_300) (by decide)
      obtain ⟨rfl, Nq608, ec608⟩ := hQ608
      have N608 := Fr.app N606 Nq608
      have fc611 := ((u557_12.keep K567 (ninS (Ne.symm nz591) (ninS (Ne.symm nz590) nin0))).keep K574 (ninS (Ne.symm nz595) (ninS (Ne.symm nz593) nin0)))
      obtain ⟨_, T610, L610, X610, hQ610, st610⟩ := own_cV X608 hx hZ hown hml (cw30 hw) (rm40_1 l Z a0 hw b557_0 b557_1 T574.heap n0 OL574 fc611) ec608 fc597 308 #[iv p1, iv p2, iv p3, iv p4, iv p5, rv b1, rv b3, rv b5, rv b16, rv b27, rv v1, rv b322_0, rv b323, rv b556_0, rv b557_0] [] [] 0 rfl (hb hby at_308) (by decide)
      obtain ⟨rfl, Nq610, ec610⟩ := hQ610
      have N610 := Fr.app N608 Nq610
      have nz613 := nl u556_9.lt u557_1
      have nz614 := nl u556_6.lt u557_1
      have nz615 := nl lz592 u557_1
      have nz616 := nl lz594 u557_1
      have fc617 := ((u557_14.keep K567 (ninS (Ne.symm nz614) (ninS (Ne.symm nz613) nin0))).keep K574 (ninS (Ne.symm nz616) (ninS (Ne.symm nz615) nin0)))
      have nz618 := nl u556_9.lt u557_2
      have nz619 := nl u556_6.lt u557_2
      have nz620 := nl lz592 u557_2
      have nz621 := nl lz594 u557_2
      have fc622 := ((u557_16.keep K567 (ninS (Ne.symm nz619) (ninS (Ne.symm nz618) nin0))).keep K574 (ninS (Ne.symm nz621) (ninS (Ne.symm nz620) nin0)))
      have fc623 := ((u557_13.keep K567).keep K574)
      obtain ⟨_, T612, L612, X612, hQ612, st612⟩ := own_cS X610 hx hZ hown hml (cw32 hw) (rm41_3 l Z a0 hw b557_1 p5 b1 b3 b557_2 x551 x554 x555 kx557_0 T574.heap n0 OL574 hf331 fc617 fc622 fc623 hx551 hx554 hx555) ec610 317 #[iv p1, iv p2, iv p3, iv p4, iv p5, rv b1, rv b3, rv b5, rv b16, rv b27, rv v1, rv b322_0, rv b323, rv b556_0, rv b557_0] [(.ref b557_1), (.int p5), (.ref b1), (.ref b3)] [] 0 rfl (hb hby at_317) (by decide)
      obtain ⟨rfl, Nq612, ec612⟩ := hQ612
      have N612 := Fr.app N610 Nq612
      have nz625 := nl u324_6.lt u556_1
      have nz626 := nl u324_6.lt u556_0
      have fc627 := ((((u324_6.keep K556 nin0).keep K557 nin0).keep K567 (ninS nz626 (ninS nz625 nin0))).keep K574 (ninS (Ne.symm nz575) (ninS (Ne.symm nz583) nin0)))
      have fc628 := (((fc566.keep K557).keep K567).keep K574)
      obtain ⟨_, T624, L624, X624, hQ624, st624⟩ := own_cV X612 hx hZ hown hml (cw30 hw) (rm40_1 l Z a0 hw b323 b324_0 T574.heap n0 OL574 fc627) ec612 fc628 325 #[iv p1, iv p2, iv p3, iv p4, iv p5, rv b1, rv b3, rv b5, rv b16, rv b27, rv v1, rv b322_0, rv b323, rv b556_0, rv b557_0] [] [] 0 rfl (hb hby at_325) (by decide)
      obtain ⟨rfl, Nq624, ec624⟩ := hQ624
      have N624 := Fr.app N612 Nq624
      have nz630 := nl u324_9.lt u556_1
      have nz631 := nl u324_9.lt u556_0
      have nz632 := nl fc329.lt u324_0
      have nz633 := nl fc327.lt u324_0
      have fc634 := ((((u324_9.keep K556 nin0).keep K557 nin0).keep K567 (ninS nz631 (ninS nz630 nin0))).keep K574 (ninS (Ne.symm nz633) (ninS (Ne.symm nz632) nin0)))
      have fc635 := ((((u324_7.keep K556).keep K557).keep K567).keep K574)
      have fc636 := ((((u324_8.keep K556 nin0).keep K557 nin0).keep K567 (ninS nz631 (ninS nz630 nin0))).keep K574 (ninS (Ne.symm nz633) (ninS (Ne.symm nz632) nin0)))
      obtain ⟨_, T629, L629, X629, hQ629, st629⟩ := own_cS X624 hx hZ hown hml (cw32 hw) (rm41_1 l Z a0 hw b324_0 p4 b1 b3 w_EMPTY x319 T574.heap n0 OL574 hf65 fc634 pr53 fc635 fc636 hx319) ec624 333 #[iv p1, iv p2, iv p3, iv p4, iv p5, rv b1, rv b3, rv b5, rv b16, rv b27, rv v1, rv b322_0, rv b323, rv b556_0, rv b557_0] [(.ref b324_0), (.int p4), (.ref b1), (.ref b3)] [] 0 rfl (hb hby at_333) (by decide)
      obtain ⟨rfl, Nq629, ec629⟩ := hQ629
      have N629 := Fr.app N624 Nq629
      obtain ⟨fs, hr, hrun, hended, hW, hsame⟩ := X629.leave (v := some (.int (1 : Int32))) (fun h => by rw [Bd.returns] at h; cases h)
      refine ⟨_, _, pre331 _ ?_, hrun, hended, _, _, rfl, ⟨rfl, N629⟩, ⟨_, rfl⟩, hW, hsame.mono (by decide) (by decide)⟩
      refine st556 _ ?_
      show SS p e below T556 m 227 #[iv p1, iv p2, iv p3, iv p4, iv p5, rv b1, rv b3, rv b5, rv b16, rv b27, rv v1, rv b322_0, rv b323, uu, uu] [(.ref b556_0)] _
      refine XS.astore X556.here hx rfl (hb hby at_227) rfl rfl (l' := #[iv p1, iv p2, iv p3, iv p4, iv p5, rv b1, rv b3, rv b5, rv b16, rv b27, rv v1, rv b322_0, rv b323, rv b556_0, uu]) rfl ?_
      refine XS.aload X556.here hx rfl (hb hby at_229) rfl rfl ?_
      refine XS.aload X556.here hx rfl (hb hby at_231) rfl rfl ?_
      refine st557 _ ?_
      refine XS.astore X557.here hx rfl (hb hby at_236) rfl rfl (l' := #[iv p1, iv p2, iv p3, iv p4, iv p5, rv b1, rv b3, rv b5, rv b16, rv b27, rv v1, rv b322_0, rv b323, rv b556_0, rv b557_0]) rfl ?_
      refine XS.aload X557.here hx rfl (hb hby at_238) rfl rfl ?_
      refine XS.aload X557.here hx rfl (hb hby at_240) rfl rfl ?_
      refine st567 _ ?_
      refine XS.pop X567.here hx rfl (hb hby at_245) rfl rfl ?_
      refine XS.aload X567.here hx rfl (hb hby at_246) rfl rfl ?_
      show SS p e below T567 m 248 #[iv p1, iv p2, iv p3, iv p4, iv p5, rv b1, rv b3, rv b5, rv b16, rv b27, rv v1, rv b322_0, rv b323, rv b556_0, rv b557_0] [(.ref b322_0)] _
      refine XS.aload X567.here hx rfl (hb hby at_248) rfl rfl ?_
      refine st574 _ ?_
      refine XS.pop X574.here hx rfl (hb hby at_253) rfl rfl ?_
      refine XS.aload X574.here hx rfl (hb hby at_254) rfl rfl ?_
      refine st589 _ ?_
      refine XS.aload X589.here hx rfl (hb hby at_259) rfl rfl ?_
      refine st598 _ ?_
      refine XS.ifNo X598.here hx rfl (hb hby at_264) rfl ((if0 _ _).trans (feq (by decide : ¬ ((1 : Int32) = (0 : Int32)))).1) ?_
      refine XS.aload X598.here hx rfl (hb hby at_267) rfl rfl ?_
      refine st600 _ ?_
      show SS p e below T600 m 272 #[iv p1, iv p2, iv p3, iv p4, iv p5, rv b1, rv b3, rv b5, rv b16, rv b27, rv v1, rv b322_0, rv b323, rv b556_0, rv b557_0] [(.ref b16)] _
      refine XS.aload X600.here hx rfl (hb hby at_272) rfl rfl ?_
      refine st602 _ ?_
      refine XS.ifNo X602.here hx rfl (hb hby at_277) rfl ((if0 _ _).trans (feq (by decide : ¬ ((1 : Int32) = (0 : Int32)))).1) ?_
      refine XS.aload X602.here hx rfl (hb hby at_280) rfl rfl ?_
      refine st604 _ ?_
      refine XS.aload X604.here hx rfl (hb hby at_285) rfl rfl ?_
      refine Jvm.RoadKit.acmp (g := (mkF m 287 #[iv p1, iv p2, iv p3, iv p4, iv p5, rv b1, rv b3, rv b5, rv b16, rv b27, rv v1, rv b322_0, rv b323, rv b556_0, rv b557_0] [(.ref v1), (.ref v1)])) X604 hx rfl rfl rfl (pc0 := 287) (pc' := 290) (same := true) rfl (hb hby at_287) rfl (decide_eq_true rfl) (by decide) (by decide) ?_
      refine XS.aload X604.here hx rfl (hb hby at_290) rfl rfl ?_
      refine st606 _ ?_
      refine XS.ifnonnullNo X606.here hx rfl (hb hby at_295) rfl ?_
      show SS p e below T606 m 298 #[iv p1, iv p2, iv p3, iv p4, iv p5, rv b1, rv b3, rv b5, rv b16, rv b27, rv v1, rv b322_0, rv b323, rv b556_0, rv b557_0] [] _
      refine XS.aload X606.here hx rfl (hb hby at_298) rfl rfl ?_
      refine st608 _ ?_
      refine XS.ifnonnullNo X608.here hx rfl (hb hby at_303) rfl ?_
      refine XS.aload X608.here hx rfl (hb hby at_306) rfl rfl ?_
      refine st610 _ ?_
      refine XS.iload X610.here hx rfl (hb hby at_311) rfl ?_
      refine XS.aload X610.here hx rfl (hb hby at_313) rfl rfl ?_
      refine XS.aload X610.here hx rfl (hb hby at_315) rfl rfl ?_
      refine st612 _ ?_
      refine XS.ifNo X612.here hx rfl (hb hby at_320) rfl ((if0 _ _).trans (feq (by decide : ¬ ((1 : Int32) = (0 : Int32)))).1) ?_
      show SS p e below T612 m 323 #[iv p1, iv p2, iv p3, iv p4, iv p5, rv b1, rv b3, rv b5, rv b16, rv b27, rv v1, rv b322_0, rv b323, rv b556_0, rv b557_0] [] _
      refine XS.aload X612.here hx rfl (hb hby at_323) rfl rfl ?_
      refine st624 _ ?_
      refine XS.iloadN X624.here hx rfl (hb hby at_328) rfl ?_
      refine XS.aload X624.here hx rfl (hb hby at_329) rfl rfl ?_
      refine XS.aload X624.here hx rfl (hb hby at_331) rfl rfl ?_
      refine st629 _ ?_
      refine XS.ifNo X629.here hx rfl (hb hby at_336) rfl ((if0 _ _).trans (feq (by decide : ¬ ((1 : Int32) = (0 : Int32)))).1) ?_
      refine XS.iconst X629.here hx rfl (hb hby at_339) ?_
      refine XS.goto X629.here hx rfl (pc0 := 340) (pc' := 344) rfl (hb hby at_340) (by decide) (by decide) ?_
      show SS p e below T629 m 344 #[iv p1, iv p2, iv p3, iv p4, iv p5, rv b1, rv b3, rv b5, rv b16, rv b27, rv v1, rv b322_0, rv b323, rv b556_0, rv b557_0] [(.int (1 : Int32))] _
      exact retN X629 hx (t := .boolean) Bd.returns (by simp) (hb hby at_344) hr
  · obtain ⟨x637, hx637⟩ : ∃ w, (if (((p4.toUInt32 >>> ((2 : Int32) &&& 31).toUInt32).toInt32) &&& (1 : Int32)) = (0 : Int32) then b1 else b3) = w := ⟨_, rfl⟩
    have fc638 := ((((((((((((((((((((((((((A1.keep K2).ext E3).keep K4).ext E5).ext E6).wr W8).wr W10).keep K11).ext E16).ext E17).wr W19).wr W21).keep K22).ext E27).wr W30).wr W33).wr W36).wr W39).wr W42).wr W45).wr W48).wr W51).wr W54).wr W57).wr W60).wr W63)
    have fc639 := ((((((((((((((((((((((((A3.keep K4).ext E5).ext E6).wr W8).wr W10).keep K11).ext E16).ext E17).wr W19).wr W21).keep K22).ext E27).wr W30).wr W33).wr W36).wr W39).wr W42).wr W45).wr W48).wr W51).wr W54).wr W57).wr W60).wr W63)
    have Ex637 := own_iteE hx637 fc638 fc639
    obtain ⟨x640, hx640⟩ : ∃ w, (if (((p4.toUInt32 >>> ((3 : Int32) &&& 31).toUInt32).toInt32) &&& (1 : Int32)) = (0 : Int32) then b1 else b3) = w := ⟨_, rfl⟩
    have Ex640 := own_iteE hx640 fc638 fc639
    have Gx640 := own_iteG hx640 g_b1 g_b3
    obtain ⟨_, T641, L641, X641, hQ641, st641⟩ := own_cS X63 hx hZ hown hml (cw10 hw) (rm9_2 l Z a0 hw p4 b1 b3 w_DEFAULTCAPACITY_EMPTY_ELEMENTDATA x637 k_w_DEFAULTCAPACITY_EMPTY_ELEMENTDATA x640 h63 n0 OL63 hf65 pr46 hx637 pr48 Ex637 hx640 Ex640) e63 194 #[iv p1, iv p2, iv p3, iv p4, iv p5, rv b1, rv b3, rv b5, rv b16, rv b27, rv v1, uu, uu, uu, uu] [(.int p4), (.ref b1), (.ref b3)] [] 0 rfl (hb hby at_194) (by decide)
    obtain ⟨b641_0, b641_1, kx641_0, rfl, Nq641, K641, u641_0, u641_1, u641_2, u641_3, u641_4, u641_5, u641_6, u641_7, u641_8, u641_9⟩ := hQ641
    have OL641 := OL63.keep K641 all0
    have g_b641_0 : n0 ≤ b641_0 := Nat.le_trans (Nat.le_trans (Nat.le_of_eq OL63.1.symm) OL63.2.1) u641_0
    have g_b641_1 : n0 ≤ b641_1 := Nat.le_trans (Nat.le_trans (Nat.le_of_eq OL63.1.symm) OL63.2.1) u641_1
    have N641 := Fr.app N63 Nq641
    obtain ⟨T642, h642, X642, e642, E642, A642, D642, -, st642⟩ := newO X641 hx hZ hown (wd141 hw) (wd142 hw) (wd143 hw) rfl (g := (mkF m 199 #[iv p1, iv p2, iv p3, iv p4, iv p5, rv b1, rv b3, rv b5, rv b16, rv b27, rv v1, rv b641_0, uu, uu, uu] [])) rfl (hb hby at_199) (by decide) (by decide)
    obtain ⟨b642, g642⟩ : ∃ z, z = T641.heap.size := ⟨_, rfl⟩
    rw [← g642] at A642 D642 st642
    have g_b642 : n0 ≤ b642 := (Nat.le_trans (Nat.le_trans (Nat.le_of_eq OL641.1.symm) OL641.2.1) (Nat.le_of_eq g642.symm))
    have OL642 := OL641.ext E642
    have F_id_b642 : Fld Z h642 b642 s27 "id" s11 .null := D642 (Or.inr (wd235 hw)) (ty := (.object s39)) (by decide)
    have F_name_b642 : Fld Z h642 b642 s27 "name" s11 .null := D642 (Or.inr (wd237 hw)) (ty := (.object s39)) (by decide)
    have F_basis_b642 : Fld Z h642 b642 s27 "basis" s9 .null := D642 (Or.inr (wd239 hw)) (ty := (.object s26)) (by decide)
    have F_onlyFor_b642 : Fld Z h642 b642 s27 "onlyFor" s16 .null := D642 (Or.inr (wd241 hw)) (ty := (.object s54)) (by decide)
    have F_chargeFor_b642 : Fld Z h642 b642 s27 s24 s16 .null := D642 (Or.inr (wd243 hw)) (ty := (.object s54)) (by decide)
    have F_prices_b642 : Fld Z h642 b642 s27 "prices" s15 .null := D642 (Or.inr (wd245 hw)) (ty := (.object s52)) (by decide)
    have fc644 := (u641_3.ext E642)
    have fc645 := (u641_6.ext E642)
    have fc646 := (u641_5.ext E642)
    have fc647 := (u641_9.ext E642)
    have fc648 := (u641_7.ext E642)
    have fc649 := ((Ex640.keep K641).ext E642)
    have fc650 := ((Ex637.keep K641).ext E642)
    obtain ⟨_, T643, L643, X643, hQ643, st643⟩ := own_cN X642 hx hZ hown hml (cw16 hw) (rm19_2 l Z a0 hw b642 b5 b16 v1 b641_0 b641_1 mir_objs x637 x640 kx641_0 h642 n0 OL642 fc644 fc645 fc646 pr52 fc647 fc648 fc649 fc650 A642 F_id_b642 g_b642 F_name_b642 F_basis_b642 F_onlyFor_b642 F_chargeFor_b642 F_prices_b642) e642 b642 213 #[iv p1, iv p2, iv p3, iv p4, iv p5, rv b1, rv b3, rv b5, rv b16, rv b27, rv v1, rv b641_0, uu, uu, uu] [(.ref b5), (.ref b16), (.ref v1), .null, .null, (.ref b641_0)] [(.ref b642)] 1 rfl (hb hby at_213) (by decide)
    obtain ⟨b643_0, rfl, Nq643, K643, u643_0, u643_1, u643_2, u643_3, u643_4, u643_5, u643_6, u643_7, u643_8, u643_9⟩ := hQ643
    have OL643 := OL642.keep K643 (allS g_b642 all0)
    have N643 := Fr.app N641 Nq643
    have pre651 : ∀ t, SS p e below T643 m 224 #[iv p1, iv p2, iv p3, iv p4, iv p5, rv b1, rv b3, rv b5, rv b16, rv b27, rv v1, rv b641_0, rv b642, uu, uu] [(.ref b3), (.ref b1), (.int p5)] t → Steps p.tables e below (s₁.setTop (entryFrame m #[(.int p1), (.int p2), (.int p3), (.int p4), (.int p5)] maxLocals)) t := by
      intro t kt
      refine pre65 _ ?_
      refine st641 _ ?_
      show SS p e below T641 m 197 #[iv p1, iv p2, iv p3, iv p4, iv p5, rv b1, rv b3, rv b5, rv b16, rv b27, rv v1, uu, uu, uu, uu] [(.ref b641_0)] _
      refine XS.astore X641.here hx rfl (hb hby at_197) rfl rfl (l' := #[iv p1, iv p2, iv p3, iv p4, iv p5, rv b1, rv b3, rv b5, rv b16, rv b27, rv v1, rv b641_0, uu, uu, uu]) rfl ?_
      refine st642 _ ?_
      refine XS.dup X642.here hx rfl (hb hby at_202) rfl rfl ?_
      refine XS.aload X642.here hx rfl (hb hby at_203) rfl rfl ?_
      refine XS.aload X642.here hx rfl (hb hby at_205) rfl rfl ?_
      refine XS.aload X642.here hx rfl (hb hby at_207) rfl rfl ?_
      refine XS.aconstNull X642.here hx rfl (hb hby at_209) ?_
      refine XS.aconstNull X642.here hx rfl (hb hby at_210) ?_
      refine XS.aload X642.here hx rfl (hb hby at_211) rfl rfl ?_
      refine st643 _ ?_
      show SS p e below T643 m 216 #[iv p1, iv p2, iv p3, iv p4, iv p5, rv b1, rv b3, rv b5, rv b16, rv b27, rv v1, rv b641_0, uu, uu, uu] [(.ref b642)] _
      refine XS.astore X643.here hx rfl (hb hby at_216) rfl rfl (l' := #[iv p1, iv p2, iv p3, iv p4, iv p5, rv b1, rv b3, rv b5, rv b16, rv b27, rv v1, rv b641_0, rv b642, uu, uu]) rfl ?_
      refine XS.iload X643.here hx rfl (hb hby at_218) rfl ?_
      refine XS.aload X643.here hx rfl (hb hby at_220) rfl rfl ?_
      refine XS.aload X643.here hx rfl (hb hby at_222) rfl rfl ?_
      exact kt
    rcases own_and3 p5 with hf651 | hf651 | hf651 | hf651
    · obtain ⟨_, T652, L652, X652, hQ652, st652⟩ := own_cS X643 hx hZ hown hml (cw10 hw) (rm9_0 l Z a0 hw p5 b1 b3 w_DEFAULTCAPACITY_EMPTY_ELEMENTDATA T643.heap n0 OL643 hf651 pr46) rfl 224 #[iv p1, iv p2, iv p3, iv p4, iv p5, rv b1, rv b3, rv b5, rv b16, rv b27, rv v1, rv b641_0, rv b642, uu, uu] [(.int p5), (.ref b1), (.ref b3)] [] 0 rfl (hb hby at_224) (by decide)
      obtain ⟨b652_0, rfl, Nq652, K652, u652_0, u652_1, u652_2, u652_3, u652_4⟩ := hQ652
      have OL652 := OL643.keep K652 all0
      have g_b652_0 : n0 ≤ b652_0 := Nat.le_trans (Nat.le_trans (Nat.le_of_eq OL643.1.symm) OL643.2.1) u652_0
      have N652 := Fr.app N643 Nq652
      have fc654 := (u643_1.keep K652 nin0)
      have fc655 := (u643_2.keep K652 nin0)
      have fc656 := (u643_3.keep K652 nin0)
      have fc657 := (u643_4.keep K652 nin0)
      have fc658 := (u643_5.keep K652 nin0)
      have fc659 := ((A642.keep K643).keep K652)
      obtain ⟨_, T653, L653, X653, hQ653, st653⟩ := own_cV X652 hx hZ hown hml (cw18 hw) (rm32_0 l Z a0 hw b642 b652_0 b5 b16 v1 w_EMPTY_LIST T652.heap n0 OL652 fc654 fc655 fc656 fc657 fc658 u652_1 u652_4 pr47) rfl fc659 233 #[iv p1, iv p2, iv p3, iv p4, iv p5, rv b1, rv b3, rv b5, rv b16, rv b27, rv v1, rv b641_0, rv b642, rv b652_0, uu] [(.ref b652_0)] [] 0 rfl (hb hby at_233) (by decide)
      obtain ⟨b653_0, rfl, Nq653, K653, u653_0, u653_1, u653_2, u653_3, u653_4, u653_5, u653_6, u653_7⟩ := hQ653
      have OL653 := OL652.keep K653 all0
      have N653 := Fr.app N652 Nq653
      have fc661 := (u652_2.keep K653 nin0)
      have fc662 := (u652_1.keep K653)
      have fc663 := (u652_3.keep K653 nin0)
      have fc664 := (u652_4.keep K653 nin0)
      have fc665 := (((((fc638.keep K641).ext E642).keep K643).keep K652).keep K653)
      obtain ⟨_, T660, L660, X660, hQ660, st660⟩ := own_cV X653 hx hZ hown hml (cw23 hw) (rm14_0 l Z a0 hw b652_0 b1 w_DEFAULTCAPACITY_EMPTY_ELEMENTDATA k_w_DEFAULTCAPACITY_EMPTY_ELEMENTDATA T653.heap n0 OL653 fc661 fc662 g_b652_0 fc663 fc664 pr48 pr46 fc665) rfl fc662 242 #[iv p1, iv p2, iv p3, iv p4, iv p5, rv b1, rv b3, rv b5, rv b16, rv b27, rv v1, rv b641_0, rv b642, rv b652_0, rv b653_0] [(.ref b1)] [] 0 rfl (hb hby at_242) (by decide)
      obtain ⟨b660_0, kx660_0, rfl, Nq660, K660, u660_0, u660_1, u660_2, u660_3, u660_4, u660_5, u660_6⟩ := hQ660
      have OL660 := OL653.keep K660 (allS g_b652_0 all0)
      have N660 := Fr.app N653 Nq660
      have nz667 := (nl u641_6.lt (Nat.le_of_eq g642.symm))
      have lz668 := (lq fc646.lt K643.1)
      have nz669 := nl lz668 u652_0
      have fc670 := (((((u641_4.ext E642).keep K643 (ninS nz667 nin0)).keep K652 nin0).keep K653 nin0).keep K660 (ninS nz669 nin0))
      have fc671 := ((((fc644.keep K643).keep K652).keep K653).keep K660)
      have fc672 := ((((fc646.keep K643 (ninS nz667 nin0)).keep K652 nin0).keep K653 nin0).keep K660 (ninS nz669 nin0))
      have fc673 := ((((fc645.keep K643 (ninS nz667 nin0)).keep K652 nin0).keep K653 nin0).keep K660 (ninS nz669 nin0))
      have nz674 := (nl u641_9.lt (Nat.le_of_eq g642.symm))
      have lz675 := (lq fc648.lt K643.1)
      have nz676 := nl lz675 u652_0
      have fc677 := ((((fc648.keep K643 (ninS nz674 nin0)).keep K652 nin0).keep K653 nin0).keep K660 (ninS nz676 nin0))
      have fc678 := ((((((fc639.keep K641).ext E642).keep K643).keep K652).keep K653).keep K660)
      obtain ⟨_, T666, L666, X666, hQ666, st666⟩ := own_cV X660 hx hZ hown hml (cw23 hw) (rm14_2 l Z a0 hw b641_0 b3 b641_1 x637 x640 kx641_0 T660.heap n0 OL660 fc670 fc671 g_b641_0 fc672 fc673 fc677 (Ne.symm u641_2) g_b641_1 u641_8 fc678 u641_2) rfl fc671 250 #[iv p1, iv p2, iv p3, iv p4, iv p5, rv b1, rv b3, rv b5, rv b16, rv b27, rv v1, rv b641_0, rv b642, rv b652_0, rv b653_0] [(.ref b3)] [] 0 rfl (hb hby at_250) (by decide)
      obtain ⟨rfl, Nq666, K666, u666_0, u666_1, u666_2, u666_3⟩ := hQ666
      have OL666 := OL660.keep K666 (allS g_b641_0 (allS g_b641_1 all0))
      have N666 := Fr.app N660 Nq666
      have nz680 := nl u652_4.lt u653_0
      have lz681 := (lq lz675 K652.1)
      have nz682 := nl lz681 u653_0
      have lz683 := (lq lz668 K652.1)
      have nz684 := nl lz683 u653_0
      have fc685 := ((u653_2.keep K660 (ninS (Ne.symm nz680) nin0)).keep K666 (ninS (Ne.symm nz684) (ninS (Ne.symm nz682) nin0)))
      have fc686 := ((u653_1.keep K660).keep K666)
      obtain ⟨_, T679, L679, X679, hQ679, st679⟩ := own_cV X666 hx hZ hown hml (cw24 hw) (rm34_0 l Z a0 hw b653_0 b5 T666.heap n0 OL666 fc685) rfl fc686 256 #[iv p1, iv p2, iv p3, iv p4, iv p5, rv b1, rv b3, rv b5, rv b16, rv b27, rv v1, rv b641_0, rv b642, rv b652_0, rv b653_0] [] [] 0 rfl (hb hby at_256) (by decide)
      obtain ⟨rfl, Nq679, ec679⟩ := hQ679
      have N679 := Fr.app N666 Nq679
      have fc688 := ((((((((((((((((((((((((((fc12.keep K11).ext E16).ext E17).wr W19).wr W21).keep K22).ext E27).wr W30).wr W33).wr W36).wr W39).wr W42).wr W45).wr W48).wr W51).wr W54).wr W57).wr W60).wr W63).keep K641).ext E642).keep K643).keep K652).keep K653).keep K660).keep K666)
      obtain ⟨_, T687, L687, X687, hQ687, st687⟩ := own_cV X679 hx hZ hown hml (cw25 hw) (rm35_0 l Z a0 hw b5 T666.heap n0 OL666 ) ec679 fc688 261 #[iv p1, iv p2, iv p3, iv p4, iv p5, rv b1, rv b3, rv b5, rv b16, rv b27, rv v1, rv b641_0, rv b642, rv b652_0, rv b653_0] [(.ref b5)] [] 0 rfl (hb hby at_261) (by decide)
      obtain ⟨rfl, Nq687, ec687⟩ := hQ687
      have N687 := Fr.app N679 Nq687
      have fc690 := ((u653_3.keep K660 (ninS (Ne.symm nz680) nin0)).keep K666 (ninS (Ne.symm nz684) (ninS (Ne.symm nz682) nin0)))
      obtain ⟨_, T689, L689, X689, hQ689, st689⟩ := own_cV X687 hx hZ hown hml (cw26 hw) (rm36_0 l Z a0 hw b653_0 b16 T666.heap n0 OL666 fc690) ec687 fc686 269 #[iv p1, iv p2, iv p3, iv p4, iv p5, rv b1, rv b3, rv b5, rv b16, rv b27, rv v1, rv b641_0, rv b642, rv b652_0, rv b653_0] [] [] 0 rfl (hb hby at_269) (by decide)
      obtain ⟨rfl, Nq689, ec689⟩ := hQ689
      have N689 := Fr.app N687 Nq689
      have fc692 := (((((((((((((((((((((fc23.keep K22).ext E27).wr W30).wr W33).wr W36).wr W39).wr W42).wr W45).wr W48).wr W51).wr W54).wr W57).wr W60).wr W63).keep K641).ext E642).keep K643).keep K652).keep K653).keep K660).keep K666)
      obtain ⟨_, T691, L691, X691, hQ691, st691⟩ := own_cV X689 hx hZ hown hml (cw25 hw) (rm35_0 l Z a0 hw b16 T666.heap n0 OL666 ) ec689 fc692 274 #[iv p1, iv p2, iv p3, iv p4, iv p5, rv b1, rv b3, rv b5, rv b16, rv b27, rv v1, rv b641_0, rv b642, rv b652_0, rv b653_0] [(.ref b16)] [] 0 rfl (hb hby at_274) (by decide)
      obtain ⟨rfl, Nq691, ec691⟩ := hQ691
      have N691 := Fr.app N689 Nq691
      have fc694 := ((u653_4.keep K660 (ninS (Ne.symm nz680) nin0)).keep K666 (ninS (Ne.symm nz684) (ninS (Ne.symm nz682) nin0)))
      obtain ⟨_, T693, L693, X693, hQ693, st693⟩ := own_cV X691 hx hZ hown hml (cw27 hw) (rm37_0 l Z a0 hw b653_0 v1 T666.heap n0 OL666 fc694) ec691 fc686 282 #[iv p1, iv p2, iv p3, iv p4, iv p5, rv b1, rv b3, rv b5, rv b16, rv b27, rv v1, rv b641_0, rv b642, rv b652_0, rv b653_0] [] [] 0 rfl (hb hby at_282) (by decide)
      obtain ⟨rfl, Nq693, ec693⟩ := hQ693
      have N693 := Fr.app N691 Nq693
      have fc696 := ((u653_5.keep K660 (ninS (Ne.symm nz680) nin0)).keep K666 (ninS (Ne.symm nz684) (ninS (Ne.symm nz682) nin0)))
      obtain ⟨_, T695, L695, X695, hQ695, st695⟩ := own_cV X693 hx hZ hown hml (cw28 hw) (rm38_0 l Z a0 hw b653_0 T666.heap n0 OL666 fc696) ec693 fc686 292 #[iv p1, iv p2, iv p3, iv p4, iv p5, rv b1, rv b3, rv b5, rv b16, rv b27, rv v1, rv b641_0, rv b642, rv b652_0, rv b653_0] [] [] 0 rfl (hb hby at_292) (by decide)
      obtain ⟨rfl, Nq695, ec695⟩ := hQ695
      have N695 := Fr.app N693 Nq695
      have fc698 := ((u653_6.keep K660 (ninS (Ne.symm nz680) nin0)).keep K666 (ninS (Ne.symm nz684) (ninS (Ne.symm nz682) nin0)))
      obtain ⟨_, T697, L697, X697, hQ697, st697⟩ := own_cV X695 hx hZ hown hml (cw29 hw) (rm39_0 l Z a0 hw b653_0 T666.heap n0 OL666 fc698) ec695 fc686 300 #[iv p1, iv p2, iv p3, iv p4, iv p5, rv b1, rv b3, rv b5, rv b16, rv b27, rv v1, rv b641_0, rv b642, rv b652_0, rv b653_0] [] [] 0 rfl (hb hby at_300) (by decide)
      obtain ⟨rfl, Nq697, ec697⟩ := hQ697
      have N697 := Fr.app N695 Nq697
      have fc700 := ((u653_7.keep K660 (ninS (Ne.symm nz680) nin0)).keep K666 (ninS (Ne.symm nz684) (ninS (Ne.symm nz682) nin0)))
      obtain ⟨_, T699, L699, X699, hQ699, st699⟩ := own_cV X697 hx hZ hown hml (cw30 hw) (rm40_0 l Z a0 hw b653_0 w_EMPTY_LIST T666.heap n0 OL666 fc700) ec697 fc686 308 #[iv p1, iv p2, iv p3, iv p4, iv p5, rv b1, rv b3, rv b5, rv b16, rv b27, rv v1, rv b641_0, rv b642, rv b652_0, rv b653_0] [] [] 0 rfl (hb hby at_308) (by decide)
      obtain ⟨rfl, Nq699, ec699⟩ := hQ699
      have N699 := Fr.app N697 Nq699
      obtain ⟨_, T701, L701, X701, hQ701, st701⟩ := own_cS X699 hx hZ hown hml (cw32 hw) (rm41_0 l Z a0 hw w_EMPTY_LIST p5 b1 b3 w_EMPTY_LIST__elements k_w_EMPTY_LIST__elements T666.heap n0 OL666 hf651 pr49 pr50 pr51) ec699 317 #[iv p1, iv p2, iv p3, iv p4, iv p5, rv b1, rv b3, rv b5, rv b16, rv b27, rv v1, rv b641_0, rv b642, rv b652_0, rv b653_0] [(.ref w_EMPTY_LIST), (.int p5), (.ref b1), (.ref b3)] [] 0 rfl (hb hby at_317) (by decide)
      obtain ⟨rfl, Nq701, ec701⟩ := hQ701
      have N701 := Fr.app N699 Nq701
      have nz703 := nl u643_6.lt u652_0
      have fc704 := ((((u643_6.keep K652 nin0).keep K653 nin0).keep K660 (ninS nz703 nin0)).keep K666 (ninS (Ne.symm nz667) (ninS (Ne.symm nz674) nin0)))
      have fc705 := (((fc659.keep K653).keep K660).keep K666)
      obtain ⟨_, T702, L702, X702, hQ702, st702⟩ := own_cV X701 hx hZ hown hml (cw30 hw) (rm40_1 l Z a0 hw b642 b643_0 T666.heap n0 OL666 fc704) ec701 fc705 325 #[iv p1, iv p2, iv p3, iv p4, iv p5, rv b1, rv b3, rv b5, rv b16, rv b27, rv v1, rv b641_0, rv b642, rv b652_0, rv b653_0] [] [] 0 rfl (hb hby at_325) (by decide)
      obtain ⟨rfl, Nq702, ec702⟩ := hQ702
      have N702 := Fr.app N701 Nq702
      have nz707 := nl u643_9.lt u652_0
      have nz708 := nl fc648.lt u643_0
      have nz709 := nl fc646.lt u643_0
      have fc710 := ((((u643_9.keep K652 nin0).keep K653 nin0).keep K660 (ninS nz707 nin0)).keep K666 (ninS (Ne.symm nz709) (ninS (Ne.symm nz708) nin0)))
      have fc711 := ((((u643_7.keep K652).keep K653).keep K660).keep K666)
      have fc712 := ((((u643_8.keep K652 nin0).keep K653 nin0).keep K660 (ninS nz707 nin0)).keep K666 (ninS (Ne.symm nz709) (ninS (Ne.symm nz708) nin0)))
      obtain ⟨_, T706, L706, X706, hQ706, st706⟩ := own_cS X702 hx hZ hown hml (cw32 hw) (rm41_2 l Z a0 hw b643_0 p4 b1 b3 x640 w_EMPTY x637 T666.heap n0 OL666 hf65 fc710 pr53 pr54 Gx640 fc711 fc712 hx637 hx640) ec702 333 #[iv p1, iv p2, iv p3, iv p4, iv p5, rv b1, rv b3, rv b5, rv b16, rv b27, rv v1, rv b641_0, rv b642, rv b652_0, rv b653_0] [(.ref b643_0), (.int p4), (.ref b1), (.ref b3)] [] 0 rfl (hb hby at_333) (by decide)
      obtain ⟨rfl, Nq706, ec706⟩ := hQ706
      have N706 := Fr.app N702 Nq706
      obtain ⟨fs, hr, hrun, hended, hW, hsame⟩ := X706.leave (v := some (.int (1 : Int32))) (fun h => by rw [Bd.returns] at h; cases h)
      refine ⟨_, _, pre651 _ ?_, hrun, hended, _, _, rfl, ⟨rfl, N706⟩, ⟨_, rfl⟩, hW, hsame.mono (by decide) (by decide)⟩
      refine st652 _ ?_
      show SS p e below T652 m 227 #[iv p1, iv p2, iv p3, iv p4, iv p5, rv b1, rv b3, rv b5, rv b16, rv b27, rv v1, rv b641_0, rv b642, uu, uu] [(.ref b652_0)] _
      refine XS.astore X652.here hx rfl (hb hby at_227) rfl rfl (l' := #[iv p1, iv p2, iv p3, iv p4, iv p5, rv b1, rv b3, rv b5, rv b16, rv b27, rv v1, rv b641_0, rv b642, rv b652_0, uu]) rfl ?_
      refine XS.aload X652.here hx rfl (hb hby at_229) rfl rfl ?_
      refine XS.aload X652.here hx rfl (hb hby at_231) rfl rfl ?_
      refine st653 _ ?_
      refine XS.astore X653.here hx rfl (hb hby at_236) rfl rfl (l' := #[iv p1, iv p2, iv p3, iv p4, iv p5, rv b1, rv b3, rv b5, rv b16, rv b27, rv v1, rv b641_0, rv b642, rv b652_0, rv b653_0]) rfl ?_
      refine XS.aload X653.here hx rfl (hb hby at_238) rfl rfl ?_
      refine XS.aload X653.here hx rfl (hb hby at_240) rfl rfl ?_
      refine st660 _ ?_
      refine XS.pop X660.here hx rfl (hb hby at_245) rfl rfl ?_
      refine XS.aload X660.here hx rfl (hb hby at_246) rfl rfl ?_
      show SS p e below T660 m 248 #[iv p1, iv p2, iv p3, iv p4, iv p5, rv b1, rv b3, rv b5, rv b16, rv b27, rv v1, rv b641_0, rv b642, rv b652_0, rv b653_0] [(.ref b641_0)] _
      refine XS.aload X660.here hx rfl (hb hby at_248) rfl rfl ?_
      refine st666 _ ?_
      refine XS.pop X666.here hx rfl (hb hby at_253) rfl rfl ?_
      refine XS.aload X666.here hx rfl (hb hby at_254) rfl rfl ?_
      refine st679 _ ?_
      refine XS.aload X679.here hx rfl (hb hby at_259) rfl rfl ?_
      refine st687 _ ?_
      refine XS.ifNo X687.here hx rfl (hb hby at_264) rfl ((if0 _ _).trans (feq (by decide : ¬ ((1 : Int32) = (0 : Int32)))).1) ?_
      refine XS.aload X687.here hx rfl (hb hby at_267) rfl rfl ?_
      refine st689 _ ?_
      show SS p e below T689 m 272 #[iv p1, iv p2, iv p3, iv p4, iv p5, rv b1, rv b3, rv b5, rv b16, rv b27, rv v1, rv b641_0, rv b642, rv b652_0, rv b653_0] [(.ref b16)] _
      refine XS.aload X689.here hx rfl (hb hby at_272) rfl rfl ?_
      refine st691 _ ?_
      refine XS.ifNo X691.here hx rfl (hb hby at_277) rfl ((if0 _ _).trans (feq (by decide : ¬ ((1 : Int32) = (0 : Int32)))).1) ?_
      refine XS.aload X691.here hx rfl (hb hby at_280) rfl rfl ?_
      refine st693 _ ?_
      refine XS.aload X693.here hx rfl (hb hby at_285) rfl rfl ?_
      refine Jvm.RoadKit.acmp (g := (mkF m 287 #[iv p1, iv p2, iv p3, iv p4, iv p5, rv b1, rv b3, rv b5, rv b16, rv b27, rv v1, rv b641_0, rv b642, rv b652_0, rv b653_0] [(.ref v1), (.ref v1)])) X693 hx rfl rfl rfl (pc0 := 287) (pc' := 290) (same := true) rfl (hb hby at_287) rfl (decide_eq_true rfl) (by decide) (by decide) ?_
      refine XS.aload X693.here hx rfl (hb hby at_290) rfl rfl ?_
      refine st695 _ ?_
      refine XS.ifnonnullNo X695.here hx rfl (hb hby at_295) rfl ?_
      show SS p e below T695 m 298 #[iv p1, iv p2, iv p3, iv p4, iv p5, rv b1, rv b3, rv b5, rv b16, rv b27, rv v1, rv b641_0, rv b642, rv b652_0, rv b653_0] [] _
      refine XS.aload X695.here hx rfl (hb hby at_298) rfl rfl ?_
      refine st697 _ ?_
      refine XS.ifnonnullNo X697.here hx rfl (hb hby at_303) rfl ?_
      refine XS.aload X697.here hx rfl (hb hby at_306) rfl rfl ?_
      refine st699 _ ?_
      refine XS.iload X699.here hx rfl (hb hby at_311) rfl ?_
      refine XS.aload X699.here hx rfl (hb hby at_313) rfl rfl ?_
      refine XS.aload X699.here hx rfl (hb hby at_315) rfl rfl ?_
      refine st701 _ ?_
      refine XS.ifNo X701.here hx rfl (hb hby at_320) rfl ((if0 _ _).trans (feq (by decide : ¬ ((1 : Int32) = (0 : Int32)))).1) ?_
      show SS p e below T701 m 323 #[iv p1, iv p2, iv p3, iv p4, iv p5, rv b1, rv b3, rv b5, rv b16, rv b27, rv v1, rv b641_0, rv b642, rv b652_0, rv b653_0] [] _
      refine XS.aload X701.here hx rfl (hb hby at_323) rfl rfl ?_
      refine st702 _ ?_
      refine XS.iloadN X702.here hx rfl (hb hby at_328) rfl ?_
      refine XS.aload X702.here hx rfl (hb hby at_329) rfl rfl ?_
      refine XS.aload X702.here hx rfl (hb hby at_331) rfl rfl ?_
      refine st706 _ ?_
      refine XS.ifNo X706.here hx rfl (hb hby at_336) rfl ((if0 _ _).trans (feq (by decide : ¬ ((1 : Int32) = (0 : Int32)))).1) ?_
      refine XS.iconst X706.here hx rfl (hb hby at_339) ?_
      refine XS.goto X706.here hx rfl (pc0 := 340) (pc' := 344) rfl (hb hby at_340) (by decide) (by decide) ?_
      show SS p e below T706 m 344 #[iv p1, iv p2, iv p3, iv p4, iv p5, rv b1, rv b3, rv b5, rv b16, rv b27, rv v1, rv b641_0, rv b642, rv b652_0, rv b653_0] [(.int (1 : Int32))] _
      exact retN X706 hx (t := .boolean) Bd.returns (by simp) (hb hby at_344) hr
    · obtain ⟨x713, hx713⟩ : ∃ w, (if (((p5.toUInt32 >>> ((2 : Int32) &&& 31).toUInt32).toInt32) &&& (1 : Int32)) = (0 : Int32) then b1 else b3) = w := ⟨_, rfl⟩
      have fc714 := (((fc638.keep K641).ext E642).keep K643)
      have fc715 := (((fc639.keep K641).ext E642).keep K643)
      have Ex713 := own_iteE hx713 fc714 fc715
      obtain ⟨_, T716, L716, X716, hQ716, st716⟩ := own_cS X643 hx hZ hown hml (cw10 hw) (rm9_1 l Z a0 hw p5 b1 b3 w_DEFAULTCAPACITY_EMPTY_ELEMENTDATA x713 k_w_DEFAULTCAPACITY_EMPTY_ELEMENTDATA T643.heap n0 OL643 hf651 pr46 hx713 pr48 Ex713) rfl 224 #[iv p1, iv p2, iv p3, iv p4, iv p5, rv b1, rv b3, rv b5, rv b16, rv b27, rv v1, rv b641_0, rv b642, uu, uu] [(.int p5), (.ref b1), (.ref b3)] [] 0 rfl (hb hby at_224) (by decide)
      obtain ⟨b716_0, b716_1, kx716_0, rfl, Nq716, K716, u716_0, u716_1, u716_2, u716_3, u716_4, u716_5, u716_6, u716_7, u716_8, u716_9⟩ := hQ716
      have OL716 := OL643.keep K716 all0
      have g_b716_0 : n0 ≤ b716_0 := Nat.le_trans (Nat.le_trans (Nat.le_of_eq OL643.1.symm) OL643.2.1) u716_0
      have g_b716_1 : n0 ≤ b716_1 := Nat.le_trans (Nat.le_trans (Nat.le_of_eq OL643.1.symm) OL643.2.1) u716_1
      have N716 := Fr.app N643 Nq716
      have fc718 := (u643_1.keep K716 nin0)
      have fc719 := (u643_2.keep K716 nin0)
      have fc720 := (u643_3.keep K716 nin0)
      have fc721 := (u643_4.keep K716 nin0)
      have fc722 := (u643_5.keep K716 nin0)
      have fc723 := (Ex713.keep K716)
      have fc724 := ((A642.keep K643).keep K716)
      obtain ⟨_, T717, L717, X717, hQ717, st717⟩ := own_cV X716 hx hZ hown hml (cw18 hw) (rm32_1 l Z a0 hw b642 b716_0 b5 b16 v1 b716_1 mir_objs x713 kx716_0 w_EMPTY T716.heap n0 OL716 fc718 fc719 fc720 fc721 fc722 u716_3 u716_6 u716_5 pr52 u716_9 u716_7 fc723 pr53) rfl fc724 233 #[iv p1, iv p2, iv p3, iv p4, iv p5, rv b1, rv b3, rv b5, rv b16, rv b27, rv v1, rv b641_0, rv b642, rv b716_0, uu] [(.ref b716_0)] [] 0 rfl (hb hby at_233) (by decide)
      obtain ⟨b717_0, b717_1, rfl, Nq717, K717, u717_0, u717_1, u717_2, u717_3, u717_4, u717_5, u717_6, u717_7, u717_8, u717_9, u717_10, u717_11, u717_12⟩ := hQ717
      have OL717 := OL716.keep K717 all0
      have N717 := Fr.app N716 Nq717
      have fc726 := (u716_4.keep K717 nin0)
      have fc727 := (u716_3.keep K717)
      have fc728 := (u716_5.keep K717 nin0)
      have fc729 := (u716_6.keep K717 nin0)
      have fc730 := (u716_7.keep K717 nin0)
      have fc731 := ((fc714.keep K716).keep K717)
      obtain ⟨_, T725, L725, X725, hQ725, st725⟩ := own_cV X717 hx hZ hown hml (cw23 hw) (rm14_1 l Z a0 hw b716_0 b1 b716_1 x713 kx716_0 T717.heap n0 OL717 fc726 fc727 g_b716_0 fc728 fc729 fc730 (Ne.symm u716_2) g_b716_1 u716_8 fc731 u716_2) rfl fc727 242 #[iv p1, iv p2, iv p3, iv p4, iv p5, rv b1, rv b3, rv b5, rv b16, rv b27, rv v1, rv b641_0, rv b642, rv b716_0, rv b717_0] [(.ref b1)] [] 0 rfl (hb hby at_242) (by decide)
      obtain ⟨rfl, Nq725, K725, u725_0, u725_1, u725_2, u725_3⟩ := hQ725
      have OL725 := OL717.keep K725 (allS g_b716_0 (allS g_b716_1 all0))
      have N725 := Fr.app N717 Nq725
      have nz733 := (nl u641_6.lt (Nat.le_of_eq g642.symm))
      have lz734 := (lq fc646.lt K643.1)
      have nz735 := nl lz734 u716_1
      have nz736 := nl lz734 u716_0
      have fc737 := (((((u641_4.ext E642).keep K643 (ninS nz733 nin0)).keep K716 nin0).keep K717 nin0).keep K725 (ninS nz736 (ninS nz735 nin0)))
      have fc738 := ((((fc644.keep K643).keep K716).keep K717).keep K725)
      have fc739 := ((((fc646.keep K643 (ninS nz733 nin0)).keep K716 nin0).keep K717 nin0).keep K725 (ninS nz736 (ninS nz735 nin0)))
      have fc740 := ((((fc645.keep K643 (ninS nz733 nin0)).keep K716 nin0).keep K717 nin0).keep K725 (ninS nz736 (ninS nz735 nin0)))
      have nz741 := (nl u641_9.lt (Nat.le_of_eq g642.symm))
      have lz742 := (lq fc648.lt K643.1)
      have nz743 := nl lz742 u716_1
      have nz744 := nl lz742 u716_0
      have fc745 := ((((fc648.keep K643 (ninS nz741 nin0)).keep K716 nin0).keep K717 nin0).keep K725 (ninS nz744 (ninS nz743 nin0)))
      have fc746 := (((fc715.keep K716).keep K717).keep K725)
      obtain ⟨_, T732, L732, X732, hQ732, st732⟩ := own_cV X725 hx hZ hown hml (cw23 hw) (rm14_2 l Z a0 hw b641_0 b3 b641_1 x637 x640 kx641_0 T725.heap n0 OL725 fc737 fc738 g_b641_0 fc739 fc740 fc745 (Ne.symm u641_2) g_b641_1 u641_8 fc746 u641_2) rfl fc738 250 #[iv p1, iv p2, iv p3, iv p4, iv p5, rv b1, rv b3, rv b5, rv b16, rv b27, rv v1, rv b641_0, rv b642, rv b716_0, rv b717_0] [(.ref b3)] [] 0 rfl (hb hby at_250) (by decide)
      obtain ⟨rfl, Nq732, K732, u732_0, u732_1, u732_2, u732_3⟩ := hQ732
      have OL732 := OL725.keep K732 (allS g_b641_0 (allS g_b641_1 all0))
      have N732 := Fr.app N725 Nq732
      have nz748 := nl u716_9.lt u717_0
      have nz749 := nl u716_6.lt u717_0
      have lz750 := (lq lz742 K716.1)
      have nz751 := nl lz750 u717_0
      have lz752 := (lq lz734 K716.1)
      have nz753 := nl lz752 u717_0
      have fc754 := ((u717_4.keep K725 (ninS (Ne.symm nz749) (ninS (Ne.symm nz748) nin0))).keep K732 (ninS (Ne.symm nz753) (ninS (Ne.symm nz751) nin0)))
      have fc755 := ((u717_3.keep K725).keep K732)
      obtain ⟨_, T747, L747, X747, hQ747, st747⟩ := own_cV X732 hx hZ hown hml (cw24 hw) (rm34_0 l Z a0 hw b717_0 b5 T732.heap n0 OL732 fc754) rfl fc755 256 #[iv p1, iv p2, iv p3, iv p4, iv p5, rv b1, rv b3, rv b5, rv b16, rv b27, rv v1, rv b641_0, rv b642, rv b716_0, rv b717_0] [] [] 0 rfl (hb hby at_256) (by decide)
      obtain ⟨rfl, Nq747, ec747⟩ := hQ747
      have N747 := Fr.app N732 Nq747
      have fc757 := ((((((((((((((((((((((((((fc12.keep K11).ext E16).ext E17).wr W19).wr W21).keep K22).ext E27).wr W30).wr W33).wr W36).wr W39).wr W42).wr W45).wr W48).wr W51).wr W54).wr W57).wr W60).wr W63).keep K641).ext E642).keep K643).keep K716).keep K717).keep K725).keep K732)
      obtain ⟨_, T756, L756, X756, hQ756, st756⟩ := own_cV X747 hx hZ hown hml (cw25 hw) (rm35_0 l Z a0 hw b5 T732.heap n0 OL732 ) ec747 fc757 261 #[iv p1, iv p2, iv p3, iv p4, iv p5, rv b1, rv b3, rv b5, rv b16, rv b27, rv v1, rv b641_0, rv b642, rv b716_0, rv b717_0] [(.ref b5)] [] 0 rfl (hb hby at_261) (by decide)
      obtain ⟨rfl, Nq756, ec756⟩ := hQ756
      have N756 := Fr.app N747 Nq756
      have fc759 := ((u717_5.keep K725 (ninS (Ne.symm nz749) (ninS (Ne.symm nz748) nin0))).keep K732 (ninS (Ne.symm nz753) (ninS (Ne.symm nz751) nin0)))
      obtain ⟨_, T758, L758, X758, hQ758, st758⟩ := own_cV X756 hx hZ hown hml (cw26 hw) (rm36_0 l Z a0 hw b717_0 b16 T732.heap n0 OL732 fc759) ec756 fc755 269 #[iv p1, iv p2, iv p3, iv p4, iv p5, rv b1, rv b3, rv b5, rv b16, rv b27, rv v1, rv b641_0, rv b642, rv b716_0, rv b717_0] [] [] 0 rfl (hb hby at_269) (by decide)
      obtain ⟨rfl, Nq758, ec758⟩ := hQ758
      have N758 := Fr.app N756 Nq758
      have fc761 := (((((((((((((((((((((fc23.keep K22).ext E27).wr W30).wr W33).wr W36).wr W39).wr W42).wr W45).wr W48).wr W51).wr W54).wr W57).wr W60).wr W63).keep K641).ext E642).keep K643).keep K716).keep K717).keep K725).keep K732)
      obtain ⟨_, T760, L760, X760, hQ760, st760⟩ := own_cV X758 hx hZ hown hml (cw25 hw) (rm35_0 l Z a0 hw b16 T732.heap n0 OL732 ) ec758 fc761 274 #[iv p1, iv p2, iv p3, iv p4, iv p5, rv b1, rv b3, rv b5, rv b16, rv b27, rv v1, rv b641_0, rv b642, rv b716_0, rv b717_0] [(.ref b16)] [] 0 rfl (hb hby at_274) (by decide)
      obtain ⟨rfl, Nq760, ec760⟩ := hQ760
      have N760 := Fr.app N758 Nq760
      have fc763 := ((u717_6.keep K725 (ninS (Ne.symm nz749) (ninS (Ne.symm nz748) nin0))).keep K732 (ninS (Ne.symm nz753) (ninS (Ne.symm nz751) nin0)))
      obtain ⟨_, T762, L762, X762, hQ762, st762⟩ := own_cV X760 hx hZ hown hml (cw27 hw) (rm37_0 l Z a0 hw b717_0 v1 T732.heap n0 OL732 fc763) ec760 fc755 282 #[iv p1, iv p2, iv p3, iv p4, iv p5, rv b1, rv b3, rv b5, rv b16, rv b27, rv v1, rv b641_0, rv b642, rv b716_0, rv b717_0] [] [] 0 rfl (hb hby at_282) (by decide)
      obtain ⟨rfl, Nq762, ec762⟩ := hQ762
      have N762 := Fr.app N760 Nq762
      have fc765 := ((u717_7.keep K725 (ninS (Ne.symm nz749) (ninS (Ne.symm nz748) nin0))).keep K732 (ninS (Ne.symm nz753) (ninS (Ne.symm nz751) nin0)))
      obtain ⟨_, T764, L764, X764, hQ764, st764⟩ := own_cV X762 hx hZ hown hml (cw28 hw) (rm38_0 l Z a0 hw b717_0 T732.heap n0 OL732 fc765) ec762 fc755 292 #[iv p1, iv p2, iv p3, iv p4, iv p5, rv b1, rv b3, rv b5, rv b16, rv b27, rv v1, rv b641_0, rv b642, rv b716_0, rv b717_0] [] [] 0 rfl (hb hby at_292) (by decide)
      obtain ⟨rfl, Nq764, ec764⟩ := hQ764
      have N764 := Fr.app N762 Nq764
      have fc767 := ((u717_8.keep K725 (ninS (Ne.symm nz749) (ninS (Ne.symm nz748) nin0))).keep K732 (ninS (Ne.symm nz753) (ninS (Ne.symm nz751) nin0)))
      obtain ⟨_, T766, L766, X766, hQ766, st766⟩ := own_cV X764 hx hZ hown hml (cw29 hw) (rm39_0 l Z a0 hw b717_0 T732.heap n0 OL732 fc767) ec764 fc755 300 #[iv p1, iv p2, iv p3, iv p4, iv p5, rv b1, rv b3, rv b5, rv b16, rv b27, rv v1, rv b641_0, rv b642, rv b716_0, rv b717_0] [] [] 0 rfl (hb hby at_300) (by decide)
      obtain ⟨rfl, Nq766, ec766⟩ := hQ766
      have N766 := Fr.app N764 Nq766
      have fc769 := ((u717_9.keep K725 (ninS (Ne.symm nz749) (ninS (Ne.symm nz748) nin0))).keep K732 (ninS (Ne.symm nz753) (ninS (Ne.symm nz751) nin0)))
      obtain ⟨_, T768, L768, X768, hQ768, st768⟩ := own_cV X766 hx hZ hown hml (cw30 hw) (rm40_1 l Z a0 hw b717_0 b717_1 T732.heap n0 OL732 fc769) ec766 fc755 308 #[iv p1, iv p2, iv p3, iv p4, iv p5, rv b1, rv b3, rv b5, rv b16, rv b27, rv v1, rv b641_0, rv b642, rv b716_0, rv b717_0] [] [] 0 rfl (hb hby at_308) (by decide)
      obtain ⟨rfl, Nq768, ec768⟩ := hQ768
      have N768 := Fr.app N766 Nq768
      have nz771 := nl u716_9.lt u717_1
      have nz772 := nl u716_6.lt u717_1
      have nz773 := nl lz750 u717_1
      have nz774 := nl lz752 u717_1
      have fc775 := ((u717_12.keep K725 (ninS (Ne.symm nz772) (ninS (Ne.symm nz771) nin0))).keep K732 (ninS (Ne.symm nz774) (ninS (Ne.symm nz773) nin0)))
      have fc776 := ((u717_10.keep K725).keep K732)
      have fc777 := ((u717_11.keep K725 (ninS (Ne.symm nz772) (ninS (Ne.symm nz771) nin0))).keep K732 (ninS (Ne.symm nz774) (ninS (Ne.symm nz773) nin0)))
      obtain ⟨_, T770, L770, X770, hQ770, st770⟩ := own_cS X768 hx hZ hown hml (cw32 hw) (rm41_1 l Z a0 hw b717_1 p5 b1 b3 w_EMPTY x713 T732.heap n0 OL732 hf651 fc775 pr53 fc776 fc777 hx713) ec768 317 #[iv p1, iv p2, iv p3, iv p4, iv p5, rv b1, rv b3, rv b5, rv b16, rv b27, rv v1, rv b641_0, rv b642, rv b716_0, rv b717_0] [(.ref b717_1), (.int p5), (.ref b1), (.ref b3)] [] 0 rfl (hb hby at_317) (by decide)
      obtain ⟨rfl, Nq770, ec770⟩ := hQ770
      have N770 := Fr.app N768 Nq770
      have nz779 := nl u643_6.lt u716_1
      have nz780 := nl u643_6.lt u716_0
      have fc781 := ((((u643_6.keep K716 nin0).keep K717 nin0).keep K725 (ninS nz780 (ninS nz779 nin0))).keep K732 (ninS (Ne.symm nz733) (ninS (Ne.symm nz741) nin0)))
      have fc782 := (((fc724.keep K717).keep K725).keep K732)
      obtain ⟨_, T778, L778, X778, hQ778, st778⟩ := own_cV X770 hx hZ hown hml (cw30 hw) (rm40_1 l Z a0 hw b642 b643_0 T732.heap n0 OL732 fc781) ec770 fc782 325 #[iv p1, iv p2, iv p3, iv p4, iv p5, rv b1, rv b3, rv b5, rv b16, rv b27, rv v1, rv b641_0, rv b642, rv b716_0, rv b717_0] [] [] 0 rfl (hb hby at_325) (by decide)
      obtain ⟨rfl, Nq778, ec778⟩ := hQ778
      have N778 := Fr.app N770 Nq778
      have nz784 := nl u643_9.lt u716_1
      have nz785 := nl u643_9.lt u716_0
      have nz786 := nl fc648.lt u643_0
      have nz787 := nl fc646.lt u643_0
      have fc788 := ((((u643_9.keep K716 nin0).keep K717 nin0).keep K725 (ninS nz785 (ninS nz784 nin0))).keep K732 (ninS (Ne.symm nz787) (ninS (Ne.symm nz786) nin0)))
      have fc789 := ((((u643_7.keep K716).keep K717).keep K725).keep K732)
      have fc790 := ((((u643_8.keep K716 nin0).keep K717 nin0).keep K725 (ninS nz785 (ninS nz784 nin0))).keep K732 (ninS (Ne.symm nz787) (ninS (Ne.symm nz786) nin0)))
      obtain ⟨_, T783, L783, X783, hQ783, st783⟩ := own_cS X778 hx hZ hown hml (cw32 hw) (rm41_2 l Z a0 hw b643_0 p4 b1 b3 x640 w_EMPTY x637 T732.heap n0 OL732 hf65 fc788 pr53 pr54 Gx640 fc789 fc790 hx637 hx640) ec778 333 #[iv p1, iv p2, iv p3, iv p4, iv p5, rv b1, rv b3, rv b5, rv b16, rv b27, rv v1, rv b641_0, rv b642, rv b716_0, rv b717_0] [(.ref b643_0), (.int p4), (.ref b1), (.ref b3)] [] 0 rfl (hb hby at_333) (by decide)
      obtain ⟨rfl, Nq783, ec783⟩ := hQ783
      have N783 := Fr.app N778 Nq783
      obtain ⟨fs, hr, hrun, hended, hW, hsame⟩ := X783.leave (v := some (.int (1 : Int32))) (fun h => by rw [Bd.returns] at h; cases h)
      refine ⟨_, _, pre651 _ ?_, hrun, hended, _, _, rfl, ⟨rfl, N783⟩, ⟨_, rfl⟩, hW, hsame.mono (by decide) (by decide)⟩
      refine st716 _ ?_
      show SS p e below T716 m 227 #[iv p1, iv p2, iv p3, iv p4, iv p5, rv b1, rv b3, rv b5, rv b16, rv b27, rv v1, rv b641_0, rv b642, uu, uu] [(.ref b716_0)] _
      refine XS.astore X716.here hx rfl (hb hby at_227) rfl rfl (l' := #[iv p1, iv p2, iv p3, iv p4, iv p5, rv b1, rv b3, rv b5, rv b16, rv b27, rv v1, rv b641_0, rv b642, rv b716_0, uu]) rfl ?_
      refine XS.aload X716.here hx rfl (hb hby at_229) rfl rfl ?_
      refine XS.aload X716.here hx rfl (hb hby at_231) rfl rfl ?_
      refine st717 _ ?_
      refine XS.astore X717.here hx rfl (hb hby at_236) rfl rfl (l' := #[iv p1, iv p2, iv p3, iv p4, iv p5, rv b1, rv b3, rv b5, rv b16, rv b27, rv v1, rv b641_0, rv b642, rv b716_0, rv b717_0]) rfl ?_
      refine XS.aload X717.here hx rfl (hb hby at_238) rfl rfl ?_
      refine XS.aload X717.here hx rfl (hb hby at_240) rfl rfl ?_
      refine st725 _ ?_
      refine XS.pop X725.here hx rfl (hb hby at_245) rfl rfl ?_
      refine XS.aload X725.here hx rfl (hb hby at_246) rfl rfl ?_
      show SS p e below T725 m 248 #[iv p1, iv p2, iv p3, iv p4, iv p5, rv b1, rv b3, rv b5, rv b16, rv b27, rv v1, rv b641_0, rv b642, rv b716_0, rv b717_0] [(.ref b641_0)] _
      refine XS.aload X725.here hx rfl (hb hby at_248) rfl rfl ?_
      refine st732 _ ?_
      refine XS.pop X732.here hx rfl (hb hby at_253) rfl rfl ?_
      refine XS.aload X732.here hx rfl (hb hby at_254) rfl rfl ?_
      refine st747 _ ?_
      refine XS.aload X747.here hx rfl (hb hby at_259) rfl rfl ?_
      refine st756 _ ?_
      refine XS.ifNo X756.here hx rfl (hb hby at_264) rfl ((if0 _ _).trans (feq (by decide : ¬ ((1 : Int32) = (0 : Int32)))).1) ?_
      refine XS.aload X756.here hx rfl (hb hby at_267) rfl rfl ?_
      refine st758 _ ?_
      show SS p e below T758 m 272 #[iv p1, iv p2, iv p3, iv p4, iv p5, rv b1, rv b3, rv b5, rv b16, rv b27, rv v1, rv b641_0, rv b642, rv b716_0, rv b717_0] [(.ref b16)] _
      refine XS.aload X758.here hx rfl (hb hby at_272) rfl rfl ?_
      refine st760 _ ?_
      refine XS.ifNo X760.here hx rfl (hb hby at_277) rfl ((if0 _ _).trans (feq (by decide : ¬ ((1 : Int32) = (0 : Int32)))).1) ?_
      refine XS.aload X760.here hx rfl (hb hby at_280) rfl rfl ?_
      refine st762 _ ?_
      refine XS.aload X762.here hx rfl (hb hby at_285) rfl rfl ?_
      refine Jvm.RoadKit.acmp (g := (mkF m 287 #[iv p1, iv p2, iv p3, iv p4, iv p5, rv b1, rv b3, rv b5, rv b16, rv b27, rv v1, rv b641_0, rv b642, rv b716_0, rv b717_0] [(.ref v1), (.ref v1)])) X762 hx rfl rfl rfl (pc0 := 287) (pc' := 290) (same := true) rfl (hb hby at_287) rfl (decide_eq_true rfl) (by decide) (by decide) ?_
      refine XS.aload X762.here hx rfl (hb hby at_290) rfl rfl ?_
      refine st764 _ ?_
      refine XS.ifnonnullNo X764.here hx rfl (hb hby at_295) rfl ?_
      show SS p e below T764 m 298 #[iv p1, iv p2, iv p3, iv p4, iv p5, rv b1, rv b3, rv b5, rv b16, rv b27, rv v1, rv b641_0, rv b642, rv b716_0, rv b717_0] [] _
      refine XS.aload X764.here hx rfl (hb hby at_298) rfl rfl ?_
      refine st766 _ ?_
      refine XS.ifnonnullNo X766.here hx rfl (hb hby at_303) rfl ?_
      refine XS.aload X766.here hx rfl (hb hby at_306) rfl rfl ?_
      refine st768 _ ?_
      refine XS.iload X768.here hx rfl (hb hby at_311) rfl ?_
      refine XS.aload X768.here hx rfl (hb hby at_313) rfl rfl ?_
      refine XS.aload X768.here hx rfl (hb hby at_315) rfl rfl ?_
      refine st770 _ ?_
      refine XS.ifNo X770.here hx rfl (hb hby at_320) rfl ((if0 _ _).trans (feq (by decide : ¬ ((1 : Int32) = (0 : Int32)))).1) ?_
      show SS p e below T770 m 323 #[iv p1, iv p2, iv p3, iv p4, iv p5, rv b1, rv b3, rv b5, rv b16, rv b27, rv v1, rv b641_0, rv b642, rv b716_0, rv b717_0] [] _
      refine XS.aload X770.here hx rfl (hb hby at_323) rfl rfl ?_
      refine st778 _ ?_
      refine XS.iloadN X778.here hx rfl (hb hby at_328) rfl ?_
      refine XS.aload X778.here hx rfl (hb hby at_329) rfl rfl ?_
      refine XS.aload X778.here hx rfl (hb hby at_331) rfl rfl ?_
      refine st783 _ ?_
      refine XS.ifNo X783.here hx rfl (hb hby at_336) rfl ((if0 _ _).trans (feq (by decide : ¬ ((1 : Int32) = (0 : Int32)))).1) ?_
      refine XS.iconst X783.here hx rfl (hb hby at_339) ?_
      refine XS.goto X783.here hx rfl (pc0 := 340) (pc' := 344) rfl (hb hby at_340) (by decide) (by decide) ?_
      show SS p e below T783 m 344 #[iv p1, iv p2, iv p3, iv p4, iv p5, rv b1, rv b3, rv b5, rv b16, rv b27, rv v1, rv b641_0, rv b642, rv b716_0, rv b717_0] [(.int (1 : Int32))] _
      exact retN X783 hx (t := .boolean) Bd.returns (by simp) (hb hby at_344) hr
    · obtain ⟨x791, hx791⟩ : ∃ w, (if (((p5.toUInt32 >>> ((2 : Int32) &&& 31).toUInt32).toInt32) &&& (1 : Int32)) = (0 : Int32) then b1 else b3) = w := ⟨_, rfl⟩
      have fc792 := (((fc638.keep K641).ext E642).keep K643)
      have fc793 := (((fc639.keep K641).ext E642).keep K643)
      have Ex791 := own_iteE hx791 fc792 fc793
      obtain ⟨x794, hx794⟩ : ∃ w, (if (((p5.toUInt32 >>> ((3 : Int32) &&& 31).toUInt32).toInt32) &&& (1 : Int32)) = (0 : Int32) then b1 else b3) = w := ⟨_, rfl⟩
      have Ex794 := own_iteE hx794 fc792 fc793
      have Gx794 := own_iteG hx794 g_b1 g_b3
      obtain ⟨_, T795, L795, X795, hQ795, st795⟩ := own_cS X643 hx hZ hown hml (cw10 hw) (rm9_2 l Z a0 hw p5 b1 b3 w_DEFAULTCAPACITY_EMPTY_ELEMENTDATA x791 k_w_DEFAULTCAPACITY_EMPTY_ELEMENTDATA x794 T643.heap n0 OL643 hf651 pr46 hx791 pr48 Ex791 hx794 Ex794) rfl 224 #[iv p1, iv p2, iv p3, iv p4, iv p5, rv b1, rv b3, rv b5, rv b16, rv b27, rv v1, rv b641_0, rv b642, uu, uu] [(.int p5), (.ref b1), (.ref b3)] [] 0 rfl (hb hby at_224) (by decide)
      obtain ⟨b795_0, b795_1, kx795_0, rfl, Nq795, K795, u795_0, u795_1, u795_2, u795_3, u795_4, u795_5, u795_6, u795_7, u795_8, u795_9⟩ := hQ795
      have OL795 := OL643.keep K795 all0
      have g_b795_0 : n0 ≤ b795_0 := Nat.le_trans (Nat.le_trans (Nat.le_of_eq OL643.1.symm) OL643.2.1) u795_0
      have g_b795_1 : n0 ≤ b795_1 := Nat.le_trans (Nat.le_trans (Nat.le_of_eq OL643.1.symm) OL643.2.1) u795_1
      have N795 := Fr.app N643 Nq795
      have fc797 := (u643_1.keep K795 nin0)
      have fc798 := (u643_2.keep K795 nin0)
      have fc799 := (u643_3.keep K795 nin0)
      have fc800 := (u643_4.keep K795 nin0)
      have fc801 := (u643_5.keep K795 nin0)
      have fc802 := (Ex794.keep K795)
      have fc803 := (Ex791.keep K795)
      have fc804 := ((A642.keep K643).keep K795)
      obtain ⟨_, T796, L796, X796, hQ796, st796⟩ := own_cV X795 hx hZ hown hml (cw18 hw) (rm32_2 l Z a0 hw b642 b795_0 b5 b16 v1 b795_1 mir_objs x791 x794 kx795_0 T795.heap n0 OL795 fc797 fc798 fc799 fc800 fc801 u795_3 u795_6 u795_5 pr52 u795_9 u795_7 fc802 fc803) rfl fc804 233 #[iv p1, iv p2, iv p3, iv p4, iv p5, rv b1, rv b3, rv b5, rv b16, rv b27, rv v1, rv b641_0, rv b642, rv b795_0, uu] [(.ref b795_0)] [] 0 rfl (hb hby at_233) (by decide)
      obtain ⟨b796_0, b796_1, rfl, Nq796, K796, u796_0, u796_1, u796_2, u796_3, u796_4, u796_5, u796_6, u796_7, u796_8, u796_9, u796_10, u796_11, u796_12⟩ := hQ796
      have OL796 := OL795.keep K796 all0
      have N796 := Fr.app N795 Nq796
      have fc806 := (u795_4.keep K796 nin0)
      have fc807 := (u795_3.keep K796)
      have fc808 := (u795_5.keep K796 nin0)
      have fc809 := (u795_6.keep K796 nin0)
      have fc810 := (u795_7.keep K796 nin0)
      have fc811 := ((fc792.keep K795).keep K796)
      obtain ⟨_, T805, L805, X805, hQ805, st805⟩ := own_cV X796 hx hZ hown hml (cw23 hw) (rm14_2 l Z a0 hw b795_0 b1 b795_1 x791 x794 kx795_0 T796.heap n0 OL796 fc806 fc807 g_b795_0 fc808 fc809 fc810 (Ne.symm u795_2) g_b795_1 u795_8 fc811 u795_2) rfl fc807 242 #[iv p1, iv p2, iv p3, iv p4, iv p5, rv b1, rv b3, rv b5, rv b16, rv b27, rv v1, rv b641_0, rv b642, rv b795_0, rv b796_0] [(.ref b1)] [] 0 rfl (hb hby at_242) (by decide)
      obtain ⟨rfl, Nq805, K805, u805_0, u805_1, u805_2, u805_3⟩ := hQ805
      have OL805 := OL796.keep K805 (allS g_b795_0 (allS g_b795_1 all0))
      have N805 := Fr.app N796 Nq805
      have nz813 := (nl u641_6.lt (Nat.le_of_eq g642.symm))
      have lz814 := (lq fc646.lt K643.1)
      have nz815 := nl lz814 u795_1
      have nz816 := nl lz814 u795_0
      have fc817 := (((((u641_4.ext E642).keep K643 (ninS nz813 nin0)).keep K795 nin0).keep K796 nin0).keep K805 (ninS nz816 (ninS nz815 nin0)))
      have fc818 := ((((fc644.keep K643).keep K795).keep K796).keep K805)
      have fc819 := ((((fc646.keep K643 (ninS nz813 nin0)).keep K795 nin0).keep K796 nin0).keep K805 (ninS nz816 (ninS nz815 nin0)))
      have fc820 := ((((fc645.keep K643 (ninS nz813 nin0)).keep K795 nin0).keep K796 nin0).keep K805 (ninS nz816 (ninS nz815 nin0)))
      have nz821 := (nl u641_9.lt (Nat.le_of_eq g642.symm))
      have lz822 := (lq fc648.lt K643.1)
      have nz823 := nl lz822 u795_1
      have nz824 := nl lz822 u795_0
      have fc825 := ((((fc648.keep K643 (ninS nz821 nin0)).keep K795 nin0).keep K796 nin0).keep K805 (ninS nz824 (ninS nz823 nin0)))
      have fc826 := (((fc793.keep K795).keep K796).keep K805)
      obtain ⟨_, T812, L812, X812, hQ812, st812⟩ := own_cV X805 hx hZ hown hml (cw23 hw) (rm14_2 l Z a0 hw b641_0 b3 b641_1 x637 x640 kx641_0 T805.heap n0 OL805 fc817 fc818 g_b641_0 fc819 fc820 fc825 (Ne.symm u641_2) g_b641_1 u641_8 fc826 u641_2) rfl fc818 250 #[iv p1, iv p2, iv p3, iv p4, iv p5, rv b1, rv b3, rv b5, rv b16, rv b27, rv v1, rv b641_0, rv b642, rv b795_0, rv b796_0] [(.ref b3)] [] 0 rfl (hb hby at_250) (by decide)
      obtain ⟨rfl, Nq812, K812, u812_0, u812_1, u812_2, u812_3⟩ := hQ812
      have OL812 := OL805.keep K812 (allS g_b641_0 (allS g_b641_1 all0))
      have N812 := Fr.app N805 Nq812
      have nz828 := nl u795_9.lt u796_0
      have nz829 := nl u795_6.lt u796_0
      have lz830 := (lq lz822 K795.1)
      have nz831 := nl lz830 u796_0
      have lz832 := (lq lz814 K795.1)
      have nz833 := nl lz832 u796_0
      have fc834 := ((u796_4.keep K805 (ninS (Ne.symm nz829) (ninS (Ne.symm nz828) nin0))).keep K812 (ninS (Ne.symm nz833) (ninS (Ne.symm nz831) nin0)))
      have fc835 := ((u796_3.keep K805).keep K812)
      obtain ⟨_, T827, L827, X827, hQ827, st827⟩ := own_cV X812 hx hZ hown hml (cw24 hw) (rm34_0 l Z a0 hw b796_0 b5 T812.heap n0 OL812 fc834) rfl fc835 256 #[iv p1, iv p2, iv p3, iv p4, iv p5, rv b1, rv b3, rv b5, rv b16, rv b27, rv v1, rv b641_0, rv b642, rv b795_0, rv b796_0] [] [] 0 rfl (hb hby at_256) (by decide)
      obtain ⟨rfl, Nq827, ec827⟩ := hQ827
      have N827 := Fr.app N812 Nq827
      have fc837 := ((((((((((((((((((((((((((fc12.keep K11).ext E16).ext E17).wr W19).wr W21).keep K22).ext E27).wr W30).wr W33).wr W36).wr W39).wr W42).wr W45).wr W48).wr W51).wr W54).wr W57).wr W60).wr W63).keep K641).ext E642).keep K643).keep K795).keep K796).keep K805).keep K812)
      obtain ⟨_, T836, L836, X836, hQ836, st836⟩ := own_cV X827 hx hZ hown hml (cw25 hw) (rm35_0 l Z a0 hw b5 T812.heap n0 OL812 ) ec827 fc837 261 #[iv p1, iv p2, iv p3, iv p4, iv p5, rv b1, rv b3, rv b5, rv b16, rv b27, rv v1, rv b641_0, rv b642, rv b795_0, rv b796_0] [(.ref b5)] [] 0 rfl (hb hby at_261) (by decide)
      obtain ⟨rfl, Nq836, ec836⟩ := hQ836
      have N836 := Fr.app N827 Nq836
      have fc839 := ((u796_5.keep K805 (ninS (Ne.symm nz829) (ninS (Ne.symm nz828) nin0))).keep K812 (ninS (Ne.symm nz833) (ninS (Ne.symm nz831) nin0)))
      obtain ⟨_, T838, L838, X838, hQ838, st838⟩ := own_cV X836 hx hZ hown hml (cw26 hw) (rm36_0 l Z a0 hw b796_0 b16 T812.heap n0 OL812 fc839) ec836 fc835 269 #[iv p1, iv p2, iv p3, iv p4, iv p5, rv b1, rv b3, rv b5, rv b16, rv b27, rv v1, rv b641_0, rv b642, rv b795_0, rv b796_0] [] [] 0 rfl (hb hby at_269) (by decide)
      obtain ⟨rfl, Nq838, ec838⟩ := hQ838
      have N838 := Fr.app N836 Nq838
      have fc841 := (((((((((((((((((((((fc23.keep K22).ext E27).wr W30).wr W33).wr W36).wr W39).wr W42).wr W45).wr W48).wr W51).wr W54).wr W57).wr W60).wr W63).keep K641).ext E642).keep K643).keep K795).keep K796).keep K805).keep K812)
      obtain ⟨_, T840, L840, X840, hQ840, st840⟩ := own_cV X838 hx hZ hown hml (cw25 hw) (rm35_0 l Z a0 hw b16 T812.heap n0 OL812 ) ec838 fc841 274 #[iv p1, iv p2, iv p3, iv p4, iv p5, rv b1, rv b3, rv b5, rv b16, rv b27, rv v1, rv b641_0, rv b642, rv b795_0, rv b796_0] [(.ref b16)] [] 0 rfl (hb hby at_274) (by decide)
      obtain ⟨rfl, Nq840, ec840⟩ := hQ840
      have N840 := Fr.app N838 Nq840
      have fc843 := ((u796_6.keep K805 (ninS (Ne.symm nz829) (ninS (Ne.symm nz828) nin0))).keep K812 (ninS (Ne.symm nz833) (ninS (Ne.symm nz831) nin0)))
      obtain ⟨_, T842, L842, X842, hQ842, st842⟩ := own_cV X840 hx hZ hown hml (cw27 hw) (rm37_0 l Z a0 hw b796_0 v1 T812.heap n0 OL812 fc843) ec840 fc835 282 #[iv p1, iv p2, iv p3, iv p4, iv p5, rv b1, rv b3, rv b5, rv b16, rv b27, rv v1, rv b641_0, rv b642, rv b795_0, rv b796_0] [] [] 0 rfl (hb hby at_282) (by decide)
      obtain ⟨rfl, Nq842, ec842⟩ := hQ842
      have N842 := Fr.app N840 Nq842
      have fc845 := ((u796_7.keep K805 (ninS (Ne.symm nz829) (ninS (Ne.symm nz828) nin0))).keep K812 (ninS (Ne.symm nz833) (ninS (Ne.symm nz831) nin0)))
      obtain ⟨_, T844, L844, X844, hQ844, st844⟩ := own_cV X842 hx hZ hown hml (cw28 hw) (rm38_0 l Z a0 hw b796_0 T812.heap n0 OL812 fc845) ec842 fc835 292 #[iv p1, iv p2, iv p3, iv p4, iv p5, rv b1, rv b3, rv b5, rv b16, rv b27, rv v1, rv b641_0, rv b642, rv b795_0, rv b796_0] [] [] 0 rfl (hb hby at_292) (by decide)
      obtain ⟨rfl, Nq844, ec844⟩ := hQ844
      have N844 := Fr.app N842 Nq844
      have fc847 := ((u796_8.keep K805 (ninS (Ne.symm nz829) (ninS (Ne.symm nz828) nin0))).keep K812 (ninS (Ne.symm nz833) (ninS (Ne.symm nz831) nin0)))
      obtain ⟨_, T846, L846, X846, hQ846, st846⟩ := own_cV X844 hx hZ hown hml (cw29 hw) (rm39_0 l Z a0 hw b796_0 T812.heap n0 OL812 fc847) ec844 fc835 300 #[iv p1, iv p2, iv p3, iv p4, iv p5, rv b1, rv b3, rv b5, rv b16, rv b27, rv v1, rv b641_0, rv b642, rv b795_0, rv b796_0] [] [] 0 rfl (hb hby at_300) (by decide)
      obtain ⟨rfl, Nq846, ec846⟩ := hQ846
      have N846 := Fr.app N844 Nq846
      have fc849 := ((u796_9.keep K805 (ninS (Ne.symm nz829) (ninS (Ne.symm nz828) nin0))).keep K812 (ninS (Ne.symm nz833) (ninS (Ne.symm nz831) nin0)))
      obtain ⟨_, T848, L848, X848, hQ848, st848⟩ := own_cV X846 hx hZ hown hml (cw30 hw) (rm40_1 l Z a0 hw b796_0 b796_1 T812.heap n0 OL812 fc849) ec846 fc835 308 #[iv p1, iv p2, iv p3, iv p4, iv p5, rv b1, rv b3, rv b5, rv b16, rv b27, rv v1, rv b641_0, rv b642, rv b795_0, rv b796_0] [] [] 0 rfl (hb hby at_308) (by decide)
      obtain ⟨rfl, Nq848, ec848⟩ := hQ848
      have N848 := Fr.app N846 Nq848
      have nz851 := nl u795_9.lt u796_1
      have nz852 := nl u795_6.lt u796_1
      have nz853 := nl lz830 u796_1
      have nz854 := nl lz832 u796_1
      have fc855 := ((u796_12.keep K805 (ninS (Ne.symm nz852) (ninS (Ne.symm nz851) nin0))).keep K812 (ninS (Ne.symm nz854) (ninS (Ne.symm nz853) nin0)))
      have fc856 := ((u796_10.keep K805).keep K812)
      have fc857 := ((u796_11.keep K805 (ninS (Ne.symm nz852) (ninS (Ne.symm nz851) nin0))).keep K812 (ninS (Ne.symm nz854) (ninS (Ne.symm nz853) nin0)))
      obtain ⟨_, T850, L850, X850, hQ850, st850⟩ := own_cS X848 hx hZ hown hml (cw32 hw) (rm41_2 l Z a0 hw b796_1 p5 b1 b3 x794 w_EMPTY x791 T812.heap n0 OL812 hf651 fc855 pr53 pr54 Gx794 fc856 fc857 hx791 hx794) ec848 317 #[iv p1, iv p2, iv p3, iv p4, iv p5, rv b1, rv b3, rv b5, rv b16, rv b27, rv v1, rv b641_0, rv b642, rv b795_0, rv b796_0] [(.ref b796_1), (.int p5), (.ref b1), (.ref b3)] [] 0 rfl (hb hby at_317) (by decide)
      obtain ⟨rfl, Nq850, ec850⟩ := hQ850
      have N850 := Fr.app N848 Nq850
      have nz859 := nl u643_6.lt u795_1
      have nz860 := nl u643_6.lt u795_0
      have fc861 := ((((u643_6.keep K795 nin0).keep K796 nin0).keep K805 (ninS nz860 (ninS nz859 nin0))).keep K812 (ninS (Ne.symm nz813) (ninS (Ne.symm nz821) nin0)))
      have fc862 := (((fc804.keep K796).keep K805).keep K812)
      obtain ⟨_, T858, L858, X858, hQ858, st858⟩ := own_cV X850 hx hZ hown hml (cw30 hw) (rm40_1 l Z a0 hw b642 b643_0 T812.heap n0 OL812 fc861) ec850 fc862 325 #[iv p1, iv p2, iv p3, iv p4, iv p5, rv b1, rv b3, rv b5, rv b16, rv b27, rv v1, rv b641_0, rv b642, rv b795_0, rv b796_0] [] [] 0 rfl (hb hby at_325) (by decide)
      obtain ⟨rfl, Nq858, ec858⟩ := hQ858
      have N858 := Fr.app N850 Nq858
      have nz864 := nl u643_9.lt u795_1
      have nz865 := nl u643_9.lt u795_0
      have nz866 := nl fc648.lt u643_0
      have nz867 := nl fc646.lt u643_0
      have fc868 := ((((u643_9.keep K795 nin0).keep K796 nin0).keep K805 (ninS nz865 (ninS nz864 nin0))).keep K812 (ninS (Ne.symm nz867) (ninS (Ne.symm nz866) nin0)))
      have fc869 := ((((u643_7.keep K795).keep K796).keep K805).keep K812)
      have fc870 := ((((u643_8.keep K795 nin0).keep K796 nin0).keep K805 (ninS nz865 (ninS nz864 nin0))).keep K812 (ninS (Ne.symm nz867) (ninS (Ne.symm nz866) nin0)))
      obtain ⟨_, T863, L863, X863, hQ863, st863⟩ := own_cS X858 hx hZ hown hml (cw32 hw) (rm41_2 l Z a0 hw b643_0 p4 b1 b3 x640 w_EMPTY x637 T812.heap n0 OL812 hf65 fc868 pr53 pr54 Gx640 fc869 fc870 hx637 hx640) ec858 333 #[iv p1, iv p2, iv p3, iv p4, iv p5, rv b1, rv b3, rv b5, rv b16, rv b27, rv v1, rv b641_0, rv b642, rv b795_0, rv b796_0] [(.ref b643_0), (.int p4), (.ref b1), (.ref b3)] [] 0 rfl (hb hby at_333) (by decide)
      obtain ⟨rfl, Nq863, ec863⟩ := hQ863
      have N863 := Fr.app N858 Nq863
      obtain ⟨fs, hr, hrun, hended, hW, hsame⟩ := X863.leave (v := some (.int (1 : Int32))) (fun h => by rw [Bd.returns] at h; cases h)
      refine ⟨_, _, pre651 _ ?_, hrun, hended, _, _, rfl, ⟨rfl, N863⟩, ⟨_, rfl⟩, hW, hsame.mono (by decide) (by decide)⟩
      refine st795 _ ?_
      show SS p e below T795 m 227 #[iv p1, iv p2, iv p3, iv p4, iv p5, rv b1, rv b3, rv b5, rv b16, rv b27, rv v1, rv b641_0, rv b642, uu, uu] [(.ref b795_0)] _
      refine XS.astore X795.here hx rfl (hb hby at_227) rfl rfl (l' := #[iv p1, iv p2, iv p3, iv p4, iv p5, rv b1, rv b3, rv b5, rv b16, rv b27, rv v1, rv b641_0, rv b642, rv b795_0, uu]) rfl ?_
      refine XS.aload X795.here hx rfl (hb hby at_229) rfl rfl ?_
      refine XS.aload X795.here hx rfl (hb hby at_231) rfl rfl ?_
      refine st796 _ ?_
      refine XS.astore X796.here hx rfl (hb hby at_236) rfl rfl (l' := #[iv p1, iv p2, iv p3, iv p4, iv p5, rv b1, rv b3, rv b5, rv b16, rv b27, rv v1, rv b641_0, rv b642, rv b795_0, rv b796_0]) rfl ?_
      refine XS.aload X796.here hx rfl (hb hby at_238) rfl rfl ?_
      refine XS.aload X796.here hx rfl (hb hby at_240) rfl rfl ?_
      refine st805 _ ?_
      refine XS.pop X805.here hx rfl (hb hby at_245) rfl rfl ?_
      refine XS.aload X805.here hx rfl (hb hby at_246) rfl rfl ?_
      show SS p e below T805 m 248 #[iv p1, iv p2, iv p3, iv p4, iv p5, rv b1, rv b3, rv b5, rv b16, rv b27, rv v1, rv b641_0, rv b642, rv b795_0, rv b796_0] [(.ref b641_0)] _
      refine XS.aload X805.here hx rfl (hb hby at_248) rfl rfl ?_
      refine st812 _ ?_
      refine XS.pop X812.here hx rfl (hb hby at_253) rfl rfl ?_
      refine XS.aload X812.here hx rfl (hb hby at_254) rfl rfl ?_
      refine st827 _ ?_
      refine XS.aload X827.here hx rfl (hb hby at_259) rfl rfl ?_
      refine st836 _ ?_
      refine XS.ifNo X836.here hx rfl (hb hby at_264) rfl ((if0 _ _).trans (feq (by decide : ¬ ((1 : Int32) = (0 : Int32)))).1) ?_
      refine XS.aload X836.here hx rfl (hb hby at_267) rfl rfl ?_
      refine st838 _ ?_
      show SS p e below T838 m 272 #[iv p1, iv p2, iv p3, iv p4, iv p5, rv b1, rv b3, rv b5, rv b16, rv b27, rv v1, rv b641_0, rv b642, rv b795_0, rv b796_0] [(.ref b16)] _
      refine XS.aload X838.here hx rfl (hb hby at_272) rfl rfl ?_
      refine st840 _ ?_
      refine XS.ifNo X840.here hx rfl (hb hby at_277) rfl ((if0 _ _).trans (feq (by decide : ¬ ((1 : Int32) = (0 : Int32)))).1) ?_
      refine XS.aload X840.here hx rfl (hb hby at_280) rfl rfl ?_
      refine st842 _ ?_
      refine XS.aload X842.here hx rfl (hb hby at_285) rfl rfl ?_
      refine Jvm.RoadKit.acmp (g := (mkF m 287 #[iv p1, iv p2, iv p3, iv p4, iv p5, rv b1, rv b3, rv b5, rv b16, rv b27, rv v1, rv b641_0, rv b642, rv b795_0, rv b796_0] [(.ref v1), (.ref v1)])) X842 hx rfl rfl rfl (pc0 := 287) (pc' := 290) (same := true) rfl (hb hby at_287) rfl (decide_eq_true rfl) (by decide) (by decide) ?_
      refine XS.aload X842.here hx rfl (hb hby at_290) rfl rfl ?_
      refine st844 _ ?_
      refine XS.ifnonnullNo X844.here hx rfl (hb hby at_295) rfl ?_
      show SS p e below T844 m 298 #[iv p1, iv p2, iv p3, iv p4, iv p5, rv b1, rv b3, rv b5, rv b16, rv b27, rv v1, rv b641_0, rv b642, rv b795_0, rv b796_0] [] _
      refine XS.aload X844.here hx rfl (hb hby at_298) rfl rfl ?_
      refine st846 _ ?_
      refine XS.ifnonnullNo X846.here hx rfl (hb hby at_303) rfl ?_
      refine XS.aload X846.here hx rfl (hb hby at_306) rfl rfl ?_
      refine st848 _ ?_
      refine XS.iload X848.here hx rfl (hb hby at_311) rfl ?_
      refine XS.aload X848.here hx rfl (hb hby at_313) rfl rfl ?_
      refine XS.aload X848.here hx rfl (hb hby at_315) rfl rfl ?_
      refine st850 _ ?_
      refine XS.ifNo X850.here hx rfl (hb hby at_320) rfl ((if0 _ _).trans (feq (by decide : ¬ ((1 : Int32) = (0 : Int32)))).1) ?_
      show SS p e below T850 m 323 #[iv p1, iv p2, iv p3, iv p4, iv p5, rv b1, rv b3, rv b5, rv b16, rv b27, rv v1, rv b641_0, rv b642, rv b795_0, rv b796_0] [] _
      refine XS.aload X850.here hx rfl (hb hby at_323) rfl rfl ?_
      refine st858 _ ?_
      refine XS.iloadN X858.here hx rfl (hb hby at_328) rfl ?_
      refine XS.aload X858.here hx rfl (hb hby at_329) rfl rfl ?_
      refine XS.aload X858.here hx rfl (hb hby at_331) rfl rfl ?_
      refine st863 _ ?_
      refine XS.ifNo X863.here hx rfl (hb hby at_336) rfl ((if0 _ _).trans (feq (by decide : ¬ ((1 : Int32) = (0 : Int32)))).1) ?_
      refine XS.iconst X863.here hx rfl (hb hby at_339) ?_
      refine XS.goto X863.here hx rfl (pc0 := 340) (pc' := 344) rfl (hb hby at_340) (by decide) (by decide) ?_
      show SS p e below T863 m 344 #[iv p1, iv p2, iv p3, iv p4, iv p5, rv b1, rv b3, rv b5, rv b16, rv b27, rv v1, rv b641_0, rv b642, rv b795_0, rv b796_0] [(.int (1 : Int32))] _
      exact retN X863 hx (t := .boolean) Bd.returns (by simp) (hb hby at_344) hr
    · obtain ⟨x871, hx871⟩ : ∃ w, (if (((p5.toUInt32 >>> ((2 : Int32) &&& 31).toUInt32).toInt32) &&& (1 : Int32)) = (0 : Int32) then b1 else b3) = w := ⟨_, rfl⟩
      have fc872 := (((fc638.keep K641).ext E642).keep K643)
      have fc873 := (((fc639.keep K641).ext E642).keep K643)
      have Ex871 := own_iteE hx871 fc872 fc873
      obtain ⟨x874, hx874⟩ : ∃ w, (if (((p5.toUInt32 >>> ((3 : Int32) &&& 31).toUInt32).toInt32) &&& (1 : Int32)) = (0 : Int32) then b1 else b3) = w := ⟨_, rfl⟩
      have Ex874 := own_iteE hx874 fc872 fc873
      obtain ⟨x875, hx875⟩ : ∃ w, (if (((p5.toUInt32 >>> ((4 : Int32) &&& 31).toUInt32).toInt32) &&& (1 : Int32)) = (0 : Int32) then b1 else b3) = w := ⟨_, rfl⟩
      have Ex875 := own_iteE hx875 fc872 fc873
      obtain ⟨_, T876, L876, X876, hQ876, st876⟩ := own_cS X643 hx hZ hown hml (cw10 hw) (rm9_3 l Z a0 hw p5 b1 b3 w_DEFAULTCAPACITY_EMPTY_ELEMENTDATA x871 k_w_DEFAULTCAPACITY_EMPTY_ELEMENTDATA x874 x875 T643.heap n0 OL643 hf651 pr46 hx871 pr48 Ex871 hx874 Ex874 hx875 Ex875) rfl 224 #[iv p1, iv p2, iv p3, iv p4, iv p5, rv b1, rv b3, rv b5, rv b16, rv b27, rv v1, rv b641_0, rv b642, uu, uu] [(.int p5), (.ref b1), (.ref b3)] [] 0 rfl (hb hby at_224) (by decide)
      obtain ⟨b876_0, b876_1, kx876_0, rfl, Nq876, K876, u876_0, u876_1, u876_2, u876_3, u876_4, u876_5, u876_6, u876_7, u876_8, u876_9⟩ := hQ876
      have OL876 := OL643.keep K876 all0
      have g_b876_0 : n0 ≤ b876_0 := Nat.le_trans (Nat.le_trans (Nat.le_of_eq OL643.1.symm) OL643.2.1) u876_0
      have g_b876_1 : n0 ≤ b876_1 := Nat.le_trans (Nat.le_trans (Nat.le_of_eq OL643.1.symm) OL643.2.1) u876_1
      have N876 := Fr.app N643 Nq876
      have fc878 := (u643_1.keep K876 nin0)
      have fc879 := (u643_2.keep K876 nin0)
      have fc880 := (u643_3.keep K876 nin0)
      have fc881 := (u643_4.keep K876 nin0)
      have fc882 := (u643_5.keep K876 nin0)
      have fc883 := (Ex875.keep K876)
      have fc884 := (Ex874.keep K876)
      have fc885 := (Ex871.keep K876)
      have fc886 := ((A642.keep K643).keep K876)
      obtain ⟨_, T877, L877, X877, hQ877, st877⟩ := own_cV X876 hx hZ hown hml (cw18 hw) (rm32_3 l Z a0 hw b642 b876_0 b5 b16 v1 b876_1 mir_objs x871 x874 x875 kx876_0 T876.heap n0 OL876 fc878 fc879 fc880 fc881 fc882 u876_3 u876_6 u876_5 pr52 u876_9 u876_7 fc883 fc884 fc885) rfl fc886 233 #[iv p1, iv p2, iv p3, iv p4, iv p5, rv b1, rv b3, rv b5, rv b16, rv b27, rv v1, rv b641_0, rv b642, rv b876_0, uu] [(.ref b876_0)] [] 0 rfl (hb hby at_233) (by decide)
      obtain ⟨b877_0, b877_1, b877_2, kx877_0, rfl, Nq877, K877, u877_0, u877_1, u877_2, u877_3, u877_4, u877_5, u877_6, u877_7, u877_8, u877_9, u877_10, u877_11, u877_12, u877_13, u877_14, u877_15, u877_16, u877_17, u877_18⟩ := hQ877
      have OL877 := OL876.keep K877 all0
      have N877 := Fr.app N876 Nq877
      have fc888 := (u876_4.keep K877 nin0)
      have fc889 := (u876_3.keep K877)
      have fc890 := (u876_5.keep K877 nin0)
      have fc891 := (u876_6.keep K877 nin0)
      have fc892 := (u876_7.keep K877 nin0)
      have fc893 := ((fc872.keep K876).keep K877)
      obtain ⟨_, T887, L887, X887, hQ887, st887⟩ := own_cV X877 hx hZ hown hml (cw23 hw) (rm14_3 l Z a0 hw b876_0 b1 b876_1 x871 x874 x875 kx876_0 T877.heap n0 OL877 fc888 fc889 g_b876_0 fc890 fc891 fc892 (Ne.symm u876_2) g_b876_1 u876_8 fc893 u876_2) rfl fc889 242 #[iv p1, iv p2, iv p3, iv p4, iv p5, rv b1, rv b3, rv b5, rv b16, rv b27, rv v1, rv b641_0, rv b642, rv b876_0, rv b877_0] [(.ref b1)] [] 0 rfl (hb hby at_242) (by decide)
      obtain ⟨rfl, Nq887, K887, u887_0, u887_1, u887_2, u887_3⟩ := hQ887
      have OL887 := OL877.keep K887 (allS g_b876_0 (allS g_b876_1 all0))
      have N887 := Fr.app N877 Nq887
      have nz895 := (nl u641_6.lt (Nat.le_of_eq g642.symm))
      have lz896 := (lq fc646.lt K643.1)
      have nz897 := nl lz896 u876_1
      have nz898 := nl lz896 u876_0
      have fc899 := (((((u641_4.ext E642).keep K643 (ninS nz895 nin0)).keep K876 nin0).keep K877 nin0).keep K887 (ninS nz898 (ninS nz897 nin0)))
      have fc900 := ((((fc644.keep K643).keep K876).keep K877).keep K887)
      have fc901 := ((((fc646.keep K643 (ninS nz895 nin0)).keep K876 nin0).keep K877 nin0).keep K887 (ninS nz898 (ninS nz897 nin0)))
      have fc902 := ((((fc645.keep K643 (ninS nz895 nin0)).keep K876 nin0).keep K877 nin0).keep K887 (ninS nz898 (ninS nz897 nin0)))
      have nz903 := (nl u641_9.lt (Nat.le_of_eq g642.symm))
      have lz904 := (lq fc648.lt K643.1)
      have nz905 := nl lz904 u876_1
      have nz906 := nl lz904 u876_0
      have fc907 := ((((fc648.keep K643 (ninS nz903 nin0)).keep K876 nin0).keep K877 nin0).keep K887 (ninS nz906 (ninS nz905 nin0)))
      have fc908 := (((fc873.keep K876).keep K877).keep K887)
      obtain ⟨_, T894, L894, X894, hQ894, st894⟩ := own_cV X887 hx hZ hown hml (cw23 hw) (rm14_2 l Z a0 hw b641_0 b3 b641_1 x637 x640 kx641_0 T887.heap n0 OL887 fc899 fc900 g_b641_0 fc901 fc902 fc907 (Ne.symm u641_2) g_b641_1 u641_8 fc908 u641_2) rfl fc900 250 #[iv p1, iv p2, iv p3, iv p4, iv p5, rv b1, rv b3, rv b5, rv b16, rv b27, rv v1, rv b641_0, rv b642, rv b876_0, rv b877_0] [(.ref b3)] [] 0 rfl (hb hby at_250) (by decide)
      obtain ⟨rfl, Nq894, K894, u894_0, u894_1, u894_2, u894_3⟩ := hQ894
      have OL894 := OL887.keep K894 (allS g_b641_0 (allS g_b641_1 all0))
      have N894 := Fr.app N887 Nq894
      have nz910 := nl u876_9.lt u877_0
      have nz911 := nl u876_6.lt u877_0
      have lz912 := (lq lz904 K876.1)
      have nz913 := nl lz912 u877_0
      have lz914 := (lq lz896 K876.1)
      have nz915 := nl lz914 u877_0
      have fc916 := ((u877_7.keep K887 (ninS (Ne.symm nz911) (ninS (Ne.symm nz910) nin0))).keep K894 (ninS (Ne.symm nz915) (ninS (Ne.symm nz913) nin0)))
      have fc917 := ((u877_6.keep K887).keep K894)
      obtain ⟨_, T909, L909, X909, hQ909, st909⟩ := own_cV X894 hx hZ hown hml (cw24 hw) (rm34_0 l Z a0 hw b877_0 b5 T894.heap n0 OL894 fc916) rfl fc917 256 #[iv p1, iv p2, iv p3, iv p4, iv p5, rv b1, rv b3, rv b5, rv b16, rv b27, rv v1, rv b641_0, rv b642, rv b876_0, rv b877_0] [] [] 0 rfl (hb hby at_256) (by decide)
      obtain ⟨rfl, Nq909, ec909⟩ := hQ909
      have N909 := Fr.app N894 Nq909
      have fc919 := ((((((((((((((((((((((((((fc12.keep K11).ext E16).ext E17).wr W19).wr W21).keep K22).ext E27).wr W30).wr W33).wr W36).wr W39).wr W42).wr W45).wr W48).wr W51).wr W54).wr W57).wr W60).wr W63).keep K641).ext E642).keep K643).keep K876).keep K877).keep K887).keep K894)
      obtain ⟨_, T918, L918, X918, hQ918, st918⟩ := own_cV X909 hx hZ hown hml (cw25 hw) (rm35_0 l Z a0 hw b5 T894.heap n0 OL894 ) ec909 fc919 261 #[iv p1, iv p2, iv p3, iv p4, iv p5, rv b1, rv b3, rv b5, rv b16, rv b27, rv v1, rv b641_0, rv b642, rv b876_0, rv b877_0] [(.ref b5)] [] 0 rfl (hb hby at_261) (by decide)
      obtain ⟨rfl, Nq918, ec918⟩ := hQ918
      have N918 := Fr.app N909 Nq918
      have fc921 := ((u877_8.keep K887 (ninS (Ne.symm nz911) (ninS (Ne.symm nz910) nin0))).keep K894 (ninS (Ne.symm nz915) (ninS (Ne.symm nz913) nin0)))
      obtain ⟨_, T920, L920, X920, hQ920, st920⟩ := own_cV X918 hx hZ hown hml (cw26 hw) (rm36_0 l Z a0 hw b877_0 b16 T894.heap n0 OL894 fc921) ec918 fc917 269 #[iv p1, iv p2, iv p3, iv p4, iv p5, rv b1, rv b3, rv b5, rv b16, rv b27, rv v1, rv b641_0, rv b642, rv b876_0, rv b877_0] [] [] 0 rfl (hb hby at_269) (by decide)
      obtain ⟨rfl, Nq920, ec920⟩ := hQ920
      have N920 := Fr.app N918 Nq920
      have fc923 := (((((((((((((((((((((fc23.keep K22).ext E27).wr W30).wr W33).wr W36).wr W39).wr W42).wr W45).wr W48).wr W51).wr W54).wr W57).wr W60).wr W63).keep K641).ext E642).keep K643).keep K876).keep K877).keep K887).keep K894)
      obtain ⟨_, T922, L922, X922, hQ922, st922⟩ := own_cV X920 hx hZ hown hml (cw25 hw) (rm35_0 l Z a0 hw b16 T894.heap n0 OL894 ) ec920 fc923 274 #[iv p1, iv p2, iv p3, iv p4, iv p5, rv b1, rv b3, rv b5, rv b16, rv b27, rv v1, rv b641_0, rv b642, rv b876_0, rv b877_0] [(.ref b16)] [] 0 rfl (hb hby at_274) (by decide)
      obtain ⟨rfl, Nq922, ec922⟩ := hQ922
      have N922 := Fr.app N920 Nq922
      have fc925 := ((u877_9.keep K887 (ninS (Ne.symm nz911) (ninS (Ne.symm nz910) nin0))).keep K894 (ninS (Ne.symm nz915) (ninS (Ne.symm nz913) nin0)))
      obtain ⟨_, T924, L924, X924, hQ924, st924⟩ := own_cV X922 hx hZ hown hml (cw27 hw) (rm37_0 l Z a0 hw b877_0 v1 T894.heap n0 OL894 fc925) ec922 fc917 282 #[iv p1, iv p2, iv p3, iv p4, iv p5, rv b1, rv b3, rv b5, rv b16, rv b27, rv v1, rv b641_0, rv b642, rv b876_0, rv b877_0] [] [] 0 rfl (hb hby at_282) (by decide)
      obtain ⟨rfl, Nq924, ec924⟩ := hQ924
      have N924 := Fr.app N922 Nq924
      have fc927 := ((u877_10.keep K887 (ninS (Ne.symm nz911) (ninS (Ne.symm nz910) nin0))).keep K894 (ninS (Ne.symm nz915) (ninS (Ne.symm nz913) nin0)))
      obtain ⟨_, T926, L926, X926, hQ926, st926⟩ := own_cV X924 hx hZ hown hml (cw28 hw) (rm38_0 l Z a0 hw b877_0 T894.heap n0 OL894 fc927) ec924 fc917 292 #[iv p1, iv p2, iv p3, iv p4, iv p5, rv b1, rv b3, rv b5, rv b16, rv b27, rv v1, rv b641_0, rv b642, rv b876_0, rv b877_0] [] [] 0 rfl (hb hby at_292) (by decide)
      obtain ⟨rfl, Nq926, ec926⟩ := hQ926
      have N926 := Fr.app N924 Nq926
      have fc929 := ((u877_11.keep K887 (ninS (Ne.symm nz911) (ninS (Ne.symm nz910) nin0))).keep K894 (ninS (Ne.symm nz915) (ninS (Ne.symm nz913) nin0)))
      obtain ⟨_, T928, L928, X928, hQ928, st928⟩ := own_cV X926 hx hZ hown hml (cw29 hw) (rm39_0 l Z a0 hw b877_0 T894.heap n0 OL894 fc929) ec926 fc917 300 #[iv p1, iv p2, iv p3, iv p4, iv p5, rv b1, rv b3, rv b5, rv b16, rv b27, rv v1, rv b641_0, rv b642, rv b876_0, rv b877_0] [] [] 0 rfl (hb hby at_300) (by decide)
      obtain ⟨rfl, Nq928, ec928⟩ := hQ928
      have N928 := Fr.app N926 Nq928
      have fc931 := ((u877_12.keep K887 (ninS (Ne.symm nz911) (ninS (Ne.symm nz910) nin0))).keep K894 (ninS (Ne.symm nz915) (ninS (Ne.symm nz913) nin0)))
      obtain ⟨_, T930, L930, X930, hQ930, st930⟩ := own_cV X928 hx hZ hown hml (cw30 hw) (rm40_1 l Z a0 hw b877_0 b877_1 T894.heap n0 OL894 fc931) ec928 fc917 308 #[iv p1, iv p2, iv p3, iv p4, iv p5, rv b1, rv b3, rv b5, rv b16, rv b27, rv v1, rv b641_0, rv b642, rv b876_0, rv b877_0] [] [] 0 rfl (hb hby at_308) (by decide)
      obtain ⟨rfl, Nq930, ec930⟩ := hQ930
      have N930 := Fr.app N928 Nq930
      have nz933 := nl u876_9.lt u877_1
      have nz934 := nl u876_6.lt u877_1
      have nz935 := nl lz912 u877_1
      have nz936 := nl lz914 u877_1
      have fc937 := ((u877_14.keep K887 (ninS (Ne.symm nz934) (ninS (Ne.symm nz933) nin0))).keep K894 (ninS (Ne.symm nz936) (ninS (Ne.symm nz935) nin0)))
      have nz938 := nl u876_9.lt u877_2
      have nz939 := nl u876_6.lt u877_2
      have nz940 := nl lz912 u877_2
      have nz941 := nl lz914 u877_2
      have fc942 := ((u877_16.keep K887 (ninS (Ne.symm nz939) (ninS (Ne.symm nz938) nin0))).keep K894 (ninS (Ne.symm nz941) (ninS (Ne.symm nz940) nin0)))
      have fc943 := ((u877_13.keep K887).keep K894)
      obtain ⟨_, T932, L932, X932, hQ932, st932⟩ := own_cS X930 hx hZ hown hml (cw32 hw) (rm41_3 l Z a0 hw b877_1 p5 b1 b3 b877_2 x871 x874 x875 kx877_0 T894.heap n0 OL894 hf651 fc937 fc942 fc943 hx871 hx874 hx875) ec930 317 #[iv p1, iv p2, iv p3, iv p4, iv p5, rv b1, rv b3, rv b5, rv b16, rv b27, rv v1, rv b641_0, rv b642, rv b876_0, rv b877_0] [(.ref b877_1), (.int p5), (.ref b1), (.ref b3)] [] 0 rfl (hb hby at_317) (by decide)
      obtain ⟨rfl, Nq932, ec932⟩ := hQ932
      have N932 := Fr.app N930 Nq932
      have nz945 := nl u643_6.lt u876_1
      have nz946 := nl u643_6.lt u876_0
      have fc947 := ((((u643_6.keep K876 nin0).keep K877 nin0).keep K887 (ninS nz946 (ninS nz945 nin0))).keep K894 (ninS (Ne.symm nz895) (ninS (Ne.symm nz903) nin0)))
      have fc948 := (((fc886.keep K877).keep K887).keep K894)
      obtain ⟨_, T944, L944, X944, hQ944, st944⟩ := own_cV X932 hx hZ hown hml (cw30 hw) (rm40_1 l Z a0 hw b642 b643_0 T894.heap n0 OL894 fc947) ec932 fc948 325 #[iv p1, iv p2, iv p3, iv p4, iv p5, rv b1, rv b3, rv b5, rv b16, rv b27, rv v1, rv b641_0, rv b642, rv b876_0, rv b877_0] [] [] 0 rfl (hb hby at_325) (by decide)
      obtain ⟨rfl, Nq944, ec944⟩ := hQ944
      have N944 := Fr.app N932 Nq944
      have nz950 := nl u643_9.lt u876_1
      have nz951 := nl u643_9.lt u876_0
      have nz952 := nl fc648.lt u643_0
      have nz953 := nl fc646.lt u643_0
      have fc954 := ((((u643_9.keep K876 nin0).keep K877 nin0).keep K887 (ninS nz951 (ninS nz950 nin0))).keep K894 (ninS (Ne.symm nz953) (ninS (Ne.symm nz952) nin0)))
      have fc955 := ((((u643_7.keep K876).keep K877).keep K887).keep K894)
      have fc956 := ((((u643_8.keep K876 nin0).keep K877 nin0).keep K887 (ninS nz951 (ninS nz950 nin0))).keep K894 (ninS (Ne.symm nz953) (ninS (Ne.symm nz952) nin0)))
      obtain ⟨_, T949, L949, X949, hQ949, st949⟩ := own_cS X944 hx hZ hown hml (cw32 hw) (rm41_2 l Z a0 hw b643_0 p4 b1 b3 x640 w_EMPTY x637 T894.heap n0 OL894 hf65 fc954 pr53 pr54 Gx640 fc955 fc956 hx637 hx640) ec944 333 #[iv p1, iv p2, iv p3, iv p4, iv p5, rv b1, rv b3, rv b5, rv b16, rv b27, rv v1, rv b641_0, rv b642, rv b876_0, rv b877_0] [(.ref b643_0), (.int p4), (.ref b1), (.ref b3)] [] 0 rfl (hb hby at_333) (by decide)
      obtain ⟨rfl, Nq949, ec949⟩ := hQ949
      have N949 := Fr.app N944 Nq949
      obtain ⟨fs, hr, hrun, hended, hW, hsame⟩ := X949.leave (v := some (.int (1 : Int32))) (fun h => by rw [Bd.returns] at h; cases h)
      refine ⟨_, _, pre651 _ ?_, hrun, hended, _, _, rfl, ⟨rfl, N949⟩, ⟨_, rfl⟩, hW, hsame.mono (by decide) (by decide)⟩
      refine st876 _ ?_
      show SS p e below T876 m 227 #[iv p1, iv p2, iv p3, iv p4, iv p5, rv b1, rv b3, rv b5, rv b16, rv b27, rv v1, rv b641_0, rv b642, uu, uu] [(.ref b876_0)] _
      refine XS.astore X876.here hx rfl (hb hby at_227) rfl rfl (l' := #[iv p1, iv p2, iv p3, iv p4, iv p5, rv b1, rv b3, rv b5, rv b16, rv b27, rv v1, rv b641_0, rv b642, rv b876_0, uu]) rfl ?_
      refine XS.aload X876.here hx rfl (hb hby at_229) rfl rfl ?_
      refine XS.aload X876.here hx rfl (hb hby at_231) rfl rfl ?_
      refine st877 _ ?_
      refine XS.astore X877.here hx rfl (hb hby at_236) rfl rfl (l' := #[iv p1, iv p2, iv p3, iv p4, iv p5, rv b1, rv b3, rv b5, rv b16, rv b27, rv v1, rv b641_0, rv b642, rv b876_0, rv b877_0]) rfl ?_
      refine XS.aload X877.here hx rfl (hb hby at_238) rfl rfl ?_
      refine XS.aload X877.here hx rfl (hb hby at_240) rfl rfl ?_
      refine st887 _ ?_
      refine XS.pop X887.here hx rfl (hb hby at_245) rfl rfl ?_
      refine XS.aload X887.here hx rfl (hb hby at_246) rfl rfl ?_
      show SS p e below T887 m 248 #[iv p1, iv p2, iv p3, iv p4, iv p5, rv b1, rv b3, rv b5, rv b16, rv b27, rv v1, rv b641_0, rv b642, rv b876_0, rv b877_0] [(.ref b641_0)] _
      refine XS.aload X887.here hx rfl (hb hby at_248) rfl rfl ?_
      refine st894 _ ?_
      refine XS.pop X894.here hx rfl (hb hby at_253) rfl rfl ?_
      refine XS.aload X894.here hx rfl (hb hby at_254) rfl rfl ?_
      refine st909 _ ?_
      refine XS.aload X909.here hx rfl (hb hby at_259) rfl rfl ?_
      refine st918 _ ?_
      refine XS.ifNo X918.here hx rfl (hb hby at_264) rfl ((if0 _ _).trans (feq (by decide : ¬ ((1 : Int32) = (0 : Int32)))).1) ?_
      refine XS.aload X918.here hx rfl (hb hby at_267) rfl rfl ?_
      refine st920 _ ?_
      show SS p e below T920 m 272 #[iv p1, iv p2, iv p3, iv p4, iv p5, rv b1, rv b3, rv b5, rv b16, rv b27, rv v1, rv b641_0, rv b642, rv b876_0, rv b877_0] [(.ref b16)] _
      refine XS.aload X920.here hx rfl (hb hby at_272) rfl rfl ?_
      refine st922 _ ?_
      refine XS.ifNo X922.here hx rfl (hb hby at_277) rfl ((if0 _ _).trans (feq (by decide : ¬ ((1 : Int32) = (0 : Int32)))).1) ?_
      refine XS.aload X922.here hx rfl (hb hby at_280) rfl rfl ?_
      refine st924 _ ?_
      refine XS.aload X924.here hx rfl (hb hby at_285) rfl rfl ?_
      refine Jvm.RoadKit.acmp (g := (mkF m 287 #[iv p1, iv p2, iv p3, iv p4, iv p5, rv b1, rv b3, rv b5, rv b16, rv b27, rv v1, rv b641_0, rv b642, rv b876_0, rv b877_0] [(.ref v1), (.ref v1)])) X924 hx rfl rfl rfl (pc0 := 287) (pc' := 290) (same := true) rfl (hb hby at_287) rfl (decide_eq_true rfl) (by decide) (by decide) ?_
      refine XS.aload X924.here hx rfl (hb hby at_290) rfl rfl ?_
      refine st926 _ ?_
      refine XS.ifnonnullNo X926.here hx rfl (hb hby at_295) rfl ?_
      show SS p e below T926 m 298 #[iv p1, iv p2, iv p3, iv p4, iv p5, rv b1, rv b3, rv b5, rv b16, rv b27, rv v1, rv b641_0, rv b642, rv b876_0, rv b877_0] [] _
      refine XS.aload X926.here hx rfl (hb hby at_298) rfl rfl ?_
      refine st928 _ ?_
      refine XS.ifnonnullNo X928.here hx rfl (hb hby at_303) rfl ?_
      refine XS.aload X928.here hx rfl (hb hby at_306) rfl rfl ?_
      refine st930 _ ?_
      refine XS.iload X930.here hx rfl (hb hby at_311) rfl ?_
      refine XS.aload X930.here hx rfl (hb hby at_313) rfl rfl ?_
      refine XS.aload X930.here hx rfl (hb hby at_315) rfl rfl ?_
      refine st932 _ ?_
      refine XS.ifNo X932.here hx rfl (hb hby at_320) rfl ((if0 _ _).trans (feq (by decide : ¬ ((1 : Int32) = (0 : Int32)))).1) ?_
      show SS p e below T932 m 323 #[iv p1, iv p2, iv p3, iv p4, iv p5, rv b1, rv b3, rv b5, rv b16, rv b27, rv v1, rv b641_0, rv b642, rv b876_0, rv b877_0] [] _
      refine XS.aload X932.here hx rfl (hb hby at_323) rfl rfl ?_
      refine st944 _ ?_
      refine XS.iloadN X944.here hx rfl (hb hby at_328) rfl ?_
      refine XS.aload X944.here hx rfl (hb hby at_329) rfl rfl ?_
      refine XS.aload X944.here hx rfl (hb hby at_331) rfl rfl ?_
      refine st949 _ ?_
      refine XS.ifNo X949.here hx rfl (hb hby at_336) rfl ((if0 _ _).trans (feq (by decide : ¬ ((1 : Int32) = (0 : Int32)))).1) ?_
      refine XS.iconst X949.here hx rfl (hb hby at_339) ?_
      refine XS.goto X949.here hx rfl (pc0 := 340) (pc' := 344) rfl (hb hby at_340) (by decide) (by decide) ?_
      show SS p e below T949 m 344 #[iv p1, iv p2, iv p3, iv p4, iv p5, rv b1, rv b3, rv b5, rv b16, rv b27, rv v1, rv b641_0, rv b642, rv b876_0, rv b877_0] [(.int (1 : Int32))] _
      exact retN X949 hx (t := .boolean) Bd.returns (by simp) (hb hby at_344) hr
  · obtain ⟨x957, hx957⟩ : ∃ w, (if (((p4.toUInt32 >>> ((2 : Int32) &&& 31).toUInt32).toInt32) &&& (1 : Int32)) = (0 : Int32) then b1 else b3) = w := ⟨_, rfl⟩
    have fc958 := ((((((((((((((((((((((((((A1.keep K2).ext E3).keep K4).ext E5).ext E6).wr W8).wr W10).keep K11).ext E16).ext E17).wr W19).wr W21).keep K22).ext E27).wr W30).wr W33).wr W36).wr W39).wr W42).wr W45).wr W48).wr W51).wr W54).wr W57).wr W60).wr W63)
    have fc959 := ((((((((((((((((((((((((A3.keep K4).ext E5).ext E6).wr W8).wr W10).keep K11).ext E16).ext E17).wr W19).wr W21).keep K22).ext E27).wr W30).wr W33).wr W36).wr W39).wr W42).wr W45).wr W48).wr W51).wr W54).wr W57).wr W60).wr W63)
    have Ex957 := own_iteE hx957 fc958 fc959
    obtain ⟨x960, hx960⟩ : ∃ w, (if (((p4.toUInt32 >>> ((3 : Int32) &&& 31).toUInt32).toInt32) &&& (1 : Int32)) = (0 : Int32) then b1 else b3) = w := ⟨_, rfl⟩
    have Ex960 := own_iteE hx960 fc958 fc959
    obtain ⟨x961, hx961⟩ : ∃ w, (if (((p4.toUInt32 >>> ((4 : Int32) &&& 31).toUInt32).toInt32) &&& (1 : Int32)) = (0 : Int32) then b1 else b3) = w := ⟨_, rfl⟩
    have Ex961 := own_iteE hx961 fc958 fc959
    obtain ⟨_, T962, L962, X962, hQ962, st962⟩ := own_cS X63 hx hZ hown hml (cw10 hw) (rm9_3 l Z a0 hw p4 b1 b3 w_DEFAULTCAPACITY_EMPTY_ELEMENTDATA x957 k_w_DEFAULTCAPACITY_EMPTY_ELEMENTDATA x960 x961 h63 n0 OL63 hf65 pr46 hx957 pr48 Ex957 hx960 Ex960 hx961 Ex961) e63 194 #[iv p1, iv p2, iv p3, iv p4, iv p5, rv b1, rv b3, rv b5, rv b16, rv b27, rv v1, uu, uu, uu, uu] [(.int p4), (.ref b1), (.ref b3)] [] 0 rfl (hb hby at_194) (by decide)
    obtain ⟨b962_0, b962_1, kx962_0, rfl, Nq962, K962, u962_0, u962_1, u962_2, u962_3, u962_4, u962_5, u962_6, u962_7, u962_8, u962_9⟩ := hQ962
    have OL962 := OL63.keep K962 all0
    have g_b962_0 : n0 ≤ b962_0 := Nat.le_trans (Nat.le_trans (Nat.le_of_eq OL63.1.symm) OL63.2.1) u962_0
    have g_b962_1 : n0 ≤ b962_1 := Nat.le_trans (Nat.le_trans (Nat.le_of_eq OL63.1.symm) OL63.2.1) u962_1
    have N962 := Fr.app N63 Nq962
    obtain ⟨T963, h963, X963, e963, E963, A963, D963, -, st963⟩ := newO X962 hx hZ hown (wd141 hw) (wd142 hw) (wd143 hw) rfl (g := (mkF m 199 #[iv p1, iv p2, iv p3, iv p4, iv p5, rv b1, rv b3, rv b5, rv b16, rv b27, rv v1, rv b962_0, uu, uu, uu] [])) rfl (hb hby at_199) (by decide) (by decide)
    obtain ⟨b963, g963⟩ : ∃ z, z = T962.heap.size := ⟨_, rfl⟩
    rw [← g963] at A963 D963 st963
    have g_b963 : n0 ≤ b963 := (Nat.le_trans (Nat.le_trans (Nat.le_of_eq OL962.1.symm) OL962.2.1) (Nat.le_of_eq g963.symm))
    have OL963 := OL962.ext E963
    have F_id_b963 : Fld Z h963 b963 s27 "id" s11 .null := D963 (Or.inr (wd235 hw)) (ty := (.object s39)) (by decide)
    have F_name_b963 : Fld Z h963 b963 s27 "name" s11 .null := D963 (Or.inr (wd237 hw)) (ty := (.object s39)) (by decide)
    have F_basis_b963 : Fld Z h963 b963 s27 "basis" s9 .null := D963 (Or.inr (wd239 hw)) (ty := (.object s26)) (by decide)
    have F_onlyFor_b963 : Fld Z h963 b963 s27 "onlyFor" s16 .null := D963 (Or.inr (wd241 hw)) (ty := (.object s54)) (by decide)
    have F_chargeFor_b963 : Fld Z h963 b963 s27 s24 s16 .null := D963 (Or.inr (wd243 hw)) (ty := (.object s54)) (by decide)
    have F_prices_b963 : Fld Z h963 b963 s27 "prices" s15 .null := D963 (Or.inr (wd245 hw)) (ty := (.object s52)) (by decide)
    have fc965 := (u962_3.ext E963)
    have fc966 := (u962_6.ext E963)
    have fc967 := (u962_5.ext E963)
    have fc968 := (u962_9.ext E963)
    have fc969 := (u962_7.ext E963)
    have fc970 := ((Ex961.keep K962).ext E963)
    have fc971 := ((Ex960.keep K962).ext E963)
    have fc972 := ((Ex957.keep K962).ext E963)
    obtain ⟨_, T964, L964, X964, hQ964, st964⟩ := own_cN X963 hx hZ hown hml (cw16 hw) (rm19_3 l Z a0 hw b963 b5 b16 v1 b962_0 b962_1 mir_objs x957 x960 x961 kx962_0 h963 n0 OL963 fc965 fc966 fc967 pr52 fc968 fc969 fc970 fc971 fc972 A963 F_id_b963 g_b963 F_name_b963 F_basis_b963 F_onlyFor_b963 F_chargeFor_b963 F_prices_b963) e963 b963 213 #[iv p1, iv p2, iv p3, iv p4, iv p5, rv b1, rv b3, rv b5, rv b16, rv b27, rv v1, rv b962_0, uu, uu, uu] [(.ref b5), (.ref b16), (.ref v1), .null, .null, (.ref b962_0)] [(.ref b963)] 1 rfl (hb hby at_213) (by decide)
    obtain ⟨b964_0, b964_1, kx964_0, rfl, Nq964, K964, u964_0, u964_1, u964_2, u964_3, u964_4, u964_5, u964_6, u964_7, u964_8, u964_9, u964_10, u964_11, u964_12, u964_13, u964_14⟩ := hQ964
    have OL964 := OL963.keep K964 (allS g_b963 all0)
    have N964 := Fr.app N962 Nq964
    have pre973 : ∀ t, SS p e below T964 m 224 #[iv p1, iv p2, iv p3, iv p4, iv p5, rv b1, rv b3, rv b5, rv b16, rv b27, rv v1, rv b962_0, rv b963, uu, uu] [(.ref b3), (.ref b1), (.int p5)] t → Steps p.tables e below (s₁.setTop (entryFrame m #[(.int p1), (.int p2), (.int p3), (.int p4), (.int p5)] maxLocals)) t := by
      intro t kt
      refine pre65 _ ?_
      refine st962 _ ?_
      show SS p e below T962 m 197 #[iv p1, iv p2, iv p3, iv p4, iv p5, rv b1, rv b3, rv b5, rv b16, rv b27, rv v1, uu, uu, uu, uu] [(.ref b962_0)] _
      refine XS.astore X962.here hx rfl (hb hby at_197) rfl rfl (l' := #[iv p1, iv p2, iv p3, iv p4, iv p5, rv b1, rv b3, rv b5, rv b16, rv b27, rv v1, rv b962_0, uu, uu, uu]) rfl ?_
      refine st963 _ ?_
      refine XS.dup X963.here hx rfl (hb hby at_202) rfl rfl ?_
      refine XS.aload X963.here hx rfl (hb hby at_203) rfl rfl ?_
      refine XS.aload X963.here hx rfl (hb hby at_205) rfl rfl ?_
      refine XS.aload X963.here hx rfl (hb hby at_207) rfl rfl ?_
      refine XS.aconstNull X963.here hx rfl (hb hby at_209) ?_
      refine XS.aconstNull X963.here hx rfl (hb hby at_210) ?_
      refine XS.aload X963.here hx rfl (hb hby at_211) rfl rfl ?_
      refine st964 _ ?_
      show SS p e below T964 m 216 #[iv p1, iv p2, iv p3, iv p4, iv p5, rv b1, rv b3, rv b5, rv b16, rv b27, rv v1, rv b962_0, uu, uu, uu] [(.ref b963)] _
      refine XS.astore X964.here hx rfl (hb hby at_216) rfl rfl (l' := #[iv p1, iv p2, iv p3, iv p4, iv p5, rv b1, rv b3, rv b5, rv b16, rv b27, rv v1, rv b962_0, rv b963, uu, uu]) rfl ?_
      refine XS.iload X964.here hx rfl (hb hby at_218) rfl ?_
      refine XS.aload X964.here hx rfl (hb hby at_220) rfl rfl ?_
      refine XS.aload X964.here hx rfl (hb hby at_222) rfl rfl ?_
      exact kt
    rcases own_and3 p5 with hf973 | hf973 | hf973 | hf973
    · obtain ⟨_, T974, L974, X974, hQ974, st974⟩ := own_cS X964 hx hZ hown hml (cw10 hw) (rm9_0 l Z a0 hw p5 b1 b3 w_DEFAULTCAPACITY_EMPTY_ELEMENTDATA T964.heap n0 OL964 hf973 pr46) rfl 224 #[iv p1, iv p2, iv p3, iv p4, iv p5, rv b1, rv b3, rv b5, rv b16, rv b27, rv v1, rv b962_0, rv b963, uu, uu] [(.int p5), (.ref b1), (.ref b3)] [] 0 rfl (hb hby at_224) (by decide)
      obtain ⟨b974_0, rfl, Nq974, K974, u974_0, u974_1, u974_2, u974_3, u974_4⟩ := hQ974
      have OL974 := OL964.keep K974 all0
      have g_b974_0 : n0 ≤ b974_0 := Nat.le_trans (Nat.le_trans (Nat.le_of_eq OL964.1.symm) OL964.2.1) u974_0
      have N974 := Fr.app N964 Nq974
      have fc976 := (u964_3.keep K974 nin0)
      have fc977 := (u964_4.keep K974 nin0)
      have fc978 := (u964_5.keep K974 nin0)
      have fc979 := (u964_6.keep K974 nin0)
      have fc980 := (u964_7.keep K974 nin0)
      have fc981 := ((A963.keep K964).keep K974)
      obtain ⟨_, T975, L975, X975, hQ975, st975⟩ := own_cV X974 hx hZ hown hml (cw18 hw) (rm32_0 l Z a0 hw b963 b974_0 b5 b16 v1 w_EMPTY_LIST T974.heap n0 OL974 fc976 fc977 fc978 fc979 fc980 u974_1 u974_4 pr47) rfl fc981 233 #[iv p1, iv p2, iv p3, iv p4, iv p5, rv b1, rv b3, rv b5, rv b16, rv b27, rv v1, rv b962_0, rv b963, rv b974_0, uu] [(.ref b974_0)] [] 0 rfl (hb hby at_233) (by decide)
      obtain ⟨b975_0, rfl, Nq975, K975, u975_0, u975_1, u975_2, u975_3, u975_4, u975_5, u975_6, u975_7⟩ := hQ975
      have OL975 := OL974.keep K975 all0
      have N975 := Fr.app N974 Nq975
      have fc983 := (u974_2.keep K975 nin0)
      have fc984 := (u974_1.keep K975)
      have fc985 := (u974_3.keep K975 nin0)
      have fc986 := (u974_4.keep K975 nin0)
      have fc987 := (((((fc958.keep K962).ext E963).keep K964).keep K974).keep K975)
      obtain ⟨_, T982, L982, X982, hQ982, st982⟩ := own_cV X975 hx hZ hown hml (cw23 hw) (rm14_0 l Z a0 hw b974_0 b1 w_DEFAULTCAPACITY_EMPTY_ELEMENTDATA k_w_DEFAULTCAPACITY_EMPTY_ELEMENTDATA T975.heap n0 OL975 fc983 fc984 g_b974_0 fc985 fc986 pr48 pr46 fc987) rfl fc984 242 #[iv p1, iv p2, iv p3, iv p4, iv p5, rv b1, rv b3, rv b5, rv b16, rv b27, rv v1, rv b962_0, rv b963, rv b974_0, rv b975_0] [(.ref b1)] [] 0 rfl (hb hby at_242) (by decide)
      obtain ⟨b982_0, kx982_0, rfl, Nq982, K982, u982_0, u982_1, u982_2, u982_3, u982_4, u982_5, u982_6⟩ := hQ982
      have OL982 := OL975.keep K982 (allS g_b974_0 all0)
      have N982 := Fr.app N975 Nq982
      have nz989 := (nl u962_6.lt (Nat.le_of_eq g963.symm))
      have lz990 := (lq fc967.lt K964.1)
      have nz991 := nl lz990 u974_0
      have fc992 := (((((u962_4.ext E963).keep K964 (ninS nz989 nin0)).keep K974 nin0).keep K975 nin0).keep K982 (ninS nz991 nin0))
      have fc993 := ((((fc965.keep K964).keep K974).keep K975).keep K982)
      have fc994 := ((((fc967.keep K964 (ninS nz989 nin0)).keep K974 nin0).keep K975 nin0).keep K982 (ninS nz991 nin0))
      have fc995 := ((((fc966.keep K964 (ninS nz989 nin0)).keep K974 nin0).keep K975 nin0).keep K982 (ninS nz991 nin0))
      have nz996 := (nl u962_9.lt (Nat.le_of_eq g963.symm))
      have lz997 := (lq fc969.lt K964.1)
      have nz998 := nl lz997 u974_0
      have fc999 := ((((fc969.keep K964 (ninS nz996 nin0)).keep K974 nin0).keep K975 nin0).keep K982 (ninS nz998 nin0))
      have fc1000 := ((((((fc959.keep K962).ext E963).keep K964).keep K974).keep K975).keep K982)
      obtain ⟨_, T988, L988, X988, hQ988, st988⟩ := own_cV X982 hx hZ hown hml (cw23 hw) (rm14_3 l Z a0 hw b962_0 b3 b962_1 x957 x960 x961 kx962_0 T982.heap n0 OL982 fc992 fc993 g_b962_0 fc994 fc995 fc999 (Ne.symm u962_2) g_b962_1 u962_8 fc1000 u962_2) rfl fc993 250 #[iv p1, iv p2, iv p3, iv p4, iv p5, rv b1, rv b3, rv b5, rv b16, rv b27, rv v1, rv b962_0, rv b963, rv b974_0, rv b975_0] [(.ref b3)] [] 0 rfl (hb hby at_250) (by decide)
      obtain ⟨rfl, Nq988, K988, u988_0, u988_1, u988_2, u988_3⟩ := hQ988
      have OL988 := OL982.keep K988 (allS g_b962_0 (allS g_b962_1 all0))
      have N988 := Fr.app N982 Nq988
      have nz1002 := nl u974_4.lt u975_0
      have lz1003 := (lq lz997 K974.1)
      have nz1004 := nl lz1003 u975_0
      have lz1005 := (lq lz990 K974.1)
      have nz1006 := nl lz1005 u975_0
      have fc1007 := ((u975_2.keep K982 (ninS (Ne.symm nz1002) nin0)).keep K988 (ninS (Ne.symm nz1006) (ninS (Ne.symm nz1004) nin0)))
      have fc1008 := ((u975_1.keep K982).keep K988)
      obtain ⟨_, T1001, L1001, X1001, hQ1001, st1001⟩ := own_cV X988 hx hZ hown hml (cw24 hw) (rm34_0 l Z a0 hw b975_0 b5 T988.heap n0 OL988 fc1007) rfl fc1008 256 #[iv p1, iv p2, iv p3, iv p4, iv p5, rv b1, rv b3, rv b5, rv b16, rv b27, rv v1, rv b962_0, rv b963, rv b974_0, rv b975_0] [] [] 0 rfl (hb hby at_256) (by decide)
      obtain ⟨rfl, Nq1001, ec1001⟩ := hQ1001
      have N1001 := Fr.app N988 Nq1001
      have fc1010 := ((((((((((((((((((((((((((fc12.keep K11).ext E16).ext E17).wr W19).wr W21).keep K22).ext E27).wr W30).wr W33).wr W36).wr W39).wr W42).wr W45).wr W48).wr W51).wr W54).wr W57).wr W60).wr W63).keep K962).ext E963).keep K964).keep K974).keep K975).keep K982).keep K988)
      obtain ⟨_, T1009, L1009, X1009, hQ1009, st1009⟩ := own_cV X1001 hx hZ hown hml (cw25 hw) (rm35_0 l Z a0 hw b5 T988.heap n0 OL988 ) ec1001 fc1010 261 #[iv p1, iv p2, iv p3, iv p4, iv p5, rv b1, rv b3, rv b5, rv b16, rv b27, rv v1, rv b962_0, rv b963, rv b974_0, rv b975_0] [(.ref b5)] [] 0 rfl (hb hby at_261) (by decide)
      obtain ⟨rfl, Nq1009, ec1009⟩ := hQ1009
      have N1009 := Fr.app N1001 Nq1009
      have fc1012 := ((u975_3.keep K982 (ninS (Ne.symm nz1002) nin0)).keep K988 (ninS (Ne.symm nz1006) (ninS (Ne.symm nz1004) nin0)))
      obtain ⟨_, T1011, L1011, X1011, hQ1011, st1011⟩ := own_cV X1009 hx hZ hown hml (cw26 hw) (rm36_0 l Z a0 hw b975_0 b16 T988.heap n0 OL988 fc1012) ec1009 fc1008 269 #[iv p1, iv p2, iv p3, iv p4, iv p5, rv b1, rv b3, rv b5, rv b16, rv b27, rv v1, rv b962_0, rv b963, rv b974_0, rv b975_0] [] [] 0 rfl (hb hby at_269) (by decide)
      obtain ⟨rfl, Nq1011, ec1011⟩ := hQ1011
      have N1011 := Fr.app N1009 Nq1011
      have fc1014 := (((((((((((((((((((((fc23.keep K22).ext E27).wr W30).wr W33).wr W36).wr W39).wr W42).wr W45).wr W48).wr W51).wr W54).wr W57).wr W60).wr W63).keep K962).ext E963).keep K964).keep K974).keep K975).keep K982).keep K988)
      obtain ⟨_, T1013, L1013, X1013, hQ1013, st1013⟩ := own_cV X1011 hx hZ hown hml (cw25 hw) (rm35_0 l Z a0 hw b16 T988.heap n0 OL988 ) ec1011 fc1014 274 #[iv p1, iv p2, iv p3, iv p4, iv p5, rv b1, rv b3, rv b5, rv b16, rv b27, rv v1, rv b962_0, rv b963, rv b974_0, rv b975_0] [(.ref b16)] [] 0 rfl (hb hby at_274) (by decide)
      obtain ⟨rfl, Nq1013, ec1013⟩ := hQ1013
      have N1013 := Fr.app N1011 Nq1013
      have fc1016 := ((u975_4.keep K982 (ninS (Ne.symm nz1002) nin0)).keep K988 (ninS (Ne.symm nz1006) (ninS (Ne.symm nz1004) nin0)))
      obtain ⟨_, T1015, L1015, X1015, hQ1015, st1015⟩ := own_cV X1013 hx hZ hown hml (cw27 hw) (rm37_0 l Z a0 hw b975_0 v1 T988.heap n0 OL988 fc1016) ec1013 fc1008 282 #[iv p1, iv p2, iv p3, iv p4, iv p5, rv b1, rv b3, rv b5, rv b16, rv b27, rv v1, rv b962_0, rv b963, rv b974_0, rv b975_0] [] [] 0 rfl (hb hby at_282) (by decide)
      obtain ⟨rfl, Nq1015, ec1015⟩ := hQ1015
      have N1015 := Fr.app N1013 Nq1015
      have fc1018 := ((u975_5.keep K982 (ninS (Ne.symm nz1002) nin0)).keep K988 (ninS (Ne.symm nz1006) (ninS (Ne.symm nz1004) nin0)))
      obtain ⟨_, T1017, L1017, X1017, hQ1017, st1017⟩ := own_cV X1015 hx hZ hown hml (cw28 hw) (rm38_0 l Z a0 hw b975_0 T988.heap n0 OL988 fc1018) ec1015 fc1008 292 #[iv p1, iv p2, iv p3, iv p4, iv p5, rv b1, rv b3, rv b5, rv b16, rv b27, rv v1, rv b962_0, rv b963, rv b974_0, rv b975_0] [] [] 0 rfl (hb hby at_292) (by decide)
      obtain ⟨rfl, Nq1017, ec1017⟩ := hQ1017
      have N1017 := Fr.app N1015 Nq1017
      have fc1020 := ((u975_6.keep K982 (ninS (Ne.symm nz1002) nin0)).keep K988 (ninS (Ne.symm nz1006) (ninS (Ne.symm nz1004) nin0)))
      obtain ⟨_, T1019, L1019, X1019, hQ1019, st1019⟩ := own_cV X1017 hx hZ hown hml (cw29 hw) (rm39_0 l Z a0 hw b975_0 T988.heap n0 OL988 fc1020) ec1017 fc1008 300 #[iv p1, iv p2, iv p3, iv p4, iv p5, rv b1, rv b3, rv b5, rv b16, rv b27, rv v1, rv b962_0, rv b963, rv b974_0, rv b975_0] [] [] 0 rfl (hb hby at_300) (by decide)
      obtain ⟨rfl, Nq1019, ec1019⟩ := hQ1019
      have N1019 := Fr.app N1017 Nq1019
      have fc1022 := ((u975_7.keep K982 (ninS (Ne.symm nz1002) nin0)).keep K988 (ninS (Ne.symm nz1006) (ninS (Ne.symm nz1004) nin0)))
      obtain ⟨_, T1021, L1021, X1021, hQ1021, st1021⟩ := own_cV X1019 hx hZ hown hml (cw30 hw) (rm40_0 l Z a0 hw b975_0 w_EMPTY_LIST T988.heap n0 OL988 fc1022) ec1019 fc1008 308 #[iv p1, iv p2, iv p3, iv p4, iv p5, rv b1, rv b3, rv b5, rv b16, rv b27, rv v1, rv b962_0, rv b963, rv b974_0, rv b975_0] [] [] 0 rfl (hb hby at_308) (by decide)
      obtain ⟨rfl, Nq1021, ec1021⟩ := hQ1021
      have N1021 := Fr.app N1019 Nq1021
      obtain ⟨_, T1023, L1023, X1023, hQ1023, st1023⟩ := own_cS X1021 hx hZ hown hml (cw32 hw) (rm41_0 l Z a0 hw w_EMPTY_LIST p5 b1 b3 w_EMPTY_LIST__elements k_w_EMPTY_LIST__elements T988.heap n0 OL988 hf973 pr49 pr50 pr51) ec1021 317 #[iv p1, iv p2, iv p3, iv p4, iv p5, rv b1, rv b3, rv b5, rv b16, rv b27, rv v1, rv b962_0, rv b963, rv b974_0, rv b975_0] [(.ref w_EMPTY_LIST), (.int p5), (.ref b1), (.ref b3)] [] 0 rfl (hb hby at_317) (by decide)
      obtain ⟨rfl, Nq1023, ec1023⟩ := hQ1023
      have N1023 := Fr.app N1021 Nq1023
      have nz1025 := nl u964_8.lt u974_0
      have fc1026 := ((((u964_8.keep K974 nin0).keep K975 nin0).keep K982 (ninS nz1025 nin0)).keep K988 (ninS (Ne.symm nz989) (ninS (Ne.symm nz996) nin0)))
      have fc1027 := (((fc981.keep K975).keep K982).keep K988)
      obtain ⟨_, T1024, L1024, X1024, hQ1024, st1024⟩ := own_cV X1023 hx hZ hown hml (cw30 hw) (rm40_1 l Z a0 hw b963 b964_0 T988.heap n0 OL988 fc1026) ec1023 fc1027 325 #[iv p1, iv p2, iv p3, iv p4, iv p5, rv b1, rv b3, rv b5, rv b16, rv b27, rv v1, rv b962_0, rv b963, rv b974_0, rv b975_0] [] [] 0 rfl (hb hby at_325) (by decide)
      obtain ⟨rfl, Nq1024, ec1024⟩ := hQ1024
      have N1024 := Fr.app N1023 Nq1024
      have nz1029 := nl u964_9.lt u974_0
      have nz1030 := nl fc969.lt u964_0
      have nz1031 := nl fc967.lt u964_0
      have fc1032 := ((((u964_10.keep K974 nin0).keep K975 nin0).keep K982 (ninS nz1029 nin0)).keep K988 (ninS (Ne.symm nz1031) (ninS (Ne.symm nz1030) nin0)))
      have nz1033 := nl u964_14.lt u974_0
      have nz1034 := nl fc969.lt u964_1
      have nz1035 := nl fc967.lt u964_1
      have fc1036 := ((((u964_12.keep K974 nin0).keep K975 nin0).keep K982 (ninS nz1033 nin0)).keep K988 (ninS (Ne.symm nz1035) (ninS (Ne.symm nz1034) nin0)))
      have fc1037 := ((((u964_9.keep K974).keep K975).keep K982).keep K988)
      obtain ⟨_, T1028, L1028, X1028, hQ1028, st1028⟩ := own_cS X1024 hx hZ hown hml (cw32 hw) (rm41_3 l Z a0 hw b964_0 p4 b1 b3 b964_1 x957 x960 x961 kx964_0 T988.heap n0 OL988 hf65 fc1032 fc1036 fc1037 hx957 hx960 hx961) ec1024 333 #[iv p1, iv p2, iv p3, iv p4, iv p5, rv b1, rv b3, rv b5, rv b16, rv b27, rv v1, rv b962_0, rv b963, rv b974_0, rv b975_0] [(.ref b964_0), (.int p4), (.ref b1), (.ref b3)] [] 0 rfl (hb hby at_333) (by decide)
      obtain ⟨rfl, Nq1028, ec1028⟩ := hQ1028
      have N1028 := Fr.app N1024 Nq1028
      obtain ⟨fs, hr, hrun, hended, hW, hsame⟩ := X1028.leave (v := some (.int (1 : Int32))) (fun h => by rw [Bd.returns] at h; cases h)
      refine ⟨_, _, pre973 _ ?_, hrun, hended, _, _, rfl, ⟨rfl, N1028⟩, ⟨_, rfl⟩, hW, hsame.mono (by decide) (by decide)⟩
      refine st974 _ ?_
      show SS p e below T974 m 227 #[iv p1, iv p2, iv p3, iv p4, iv p5, rv b1, rv b3, rv b5, rv b16, rv b27, rv v1, rv b962_0, rv b963, uu, uu] [(.ref b974_0)] _
      refine XS.astore X974.here hx rfl (hb hby at_227) rfl rfl (l' := #[iv p1, iv p2, iv p3, iv p4, iv p5, rv b1, rv b3, rv b5, rv b16, rv b27, rv v1, rv b962_0, rv b963, rv b974_0, uu]) rfl ?_
      refine XS.aload X974.here hx rfl (hb hby at_229) rfl rfl ?_
      refine XS.aload X974.here hx rfl (hb hby at_231) rfl rfl ?_
      refine st975 _ ?_
      refine XS.astore X975.here hx rfl (hb hby at_236) rfl rfl (l' := #[iv p1, iv p2, iv p3, iv p4, iv p5, rv b1, rv b3, rv b5, rv b16, rv b27, rv v1, rv b962_0, rv b963, rv b974_0, rv b975_0]) rfl ?_
      refine XS.aload X975.here hx rfl (hb hby at_238) rfl rfl ?_
      refine XS.aload X975.here hx rfl (hb hby at_240) rfl rfl ?_
      refine st982 _ ?_
      refine XS.pop X982.here hx rfl (hb hby at_245) rfl rfl ?_
      refine XS.aload X982.here hx rfl (hb hby at_246) rfl rfl ?_
      show SS p e below T982 m 248 #[iv p1, iv p2, iv p3, iv p4, iv p5, rv b1, rv b3, rv b5, rv b16, rv b27, rv v1, rv b962_0, rv b963, rv b974_0, rv b975_0] [(.ref b962_0)] _
      refine XS.aload X982.here hx rfl (hb hby at_248) rfl rfl ?_
      refine st988 _ ?_
      refine XS.pop X988.here hx rfl (hb hby at_253) rfl rfl ?_
      refine XS.aload X988.here hx rfl (hb hby at_254) rfl rfl ?_
      refine st1001 _ ?_
      refine XS.aload X1001.here hx rfl (hb hby at_259) rfl rfl ?_
      refine st1009 _ ?_
      refine XS.ifNo X1009.here hx rfl (hb hby at_264) rfl ((if0 _ _).trans (feq (by decide : ¬ ((1 : Int32) = (0 : Int32)))).1) ?_
      refine XS.aload X1009.here hx rfl (hb hby at_267) rfl rfl ?_
      refine st1011 _ ?_
      show SS p e below T1011 m 272 #[iv p1, iv p2, iv p3, iv p4, iv p5, rv b1, rv b3, rv b5, rv b16, rv b27, rv v1, rv b962_0, rv b963, rv b974_0, rv b975_0] [(.ref b16)] _
      refine XS.aload X1011.here hx rfl (hb hby at_272) rfl rfl ?_
      refine st1013 _ ?_
      refine XS.ifNo X1013.here hx rfl (hb hby at_277) rfl ((if0 _ _).trans (feq (by decide : ¬ ((1 : Int32) = (0 : Int32)))).1) ?_
      refine XS.aload X1013.here hx rfl (hb hby at_280) rfl rfl ?_
      refine st1015 _ ?_
      refine XS.aload X1015.here hx rfl (hb hby at_285) rfl rfl ?_
      refine Jvm.RoadKit.acmp (g := (mkF m 287 #[iv p1, iv p2, iv p3, iv p4, iv p5, rv b1, rv b3, rv b5, rv b16, rv b27, rv v1, rv b962_0, rv b963, rv b974_0, rv b975_0] [(.ref v1), (.ref v1)])) X1015 hx rfl rfl rfl (pc0 := 287) (pc' := 290) (same := true) rfl (hb hby at_287) rfl (decide_eq_true rfl) (by decide) (by decide) ?_
      refine XS.aload X1015.here hx rfl (hb hby at_290) rfl rfl ?_
      refine st1017 _ ?_
      refine XS.ifnonnullNo X1017.here hx rfl (hb hby at_295) rfl ?_
      show SS p e below T1017 m 298 #[iv p1, iv p2, iv p3, iv p4, iv p5, rv b1, rv b3, rv b5, rv b16, rv b27, rv v1, rv b962_0, rv b963, rv b974_0, rv b975_0] [] _
      refine XS.aload X1017.here hx rfl (hb hby at_298) rfl rfl ?_
      refine st1019 _ ?_
      refine XS.ifnonnullNo X1019.here hx rfl (hb hby at_303) rfl ?_
      refine XS.aload X1019.here hx rfl (hb hby at_306) rfl rfl ?_
      refine st1021 _ ?_
      refine XS.iload X1021.here hx rfl (hb hby at_311) rfl ?_
      refine XS.aload X1021.here hx rfl (hb hby at_313) rfl rfl ?_
      refine XS.aload X1021.here hx rfl (hb hby at_315) rfl rfl ?_
      refine st1023 _ ?_
      refine XS.ifNo X1023.here hx rfl (hb hby at_320) rfl ((if0 _ _).trans (feq (by decide : ¬ ((1 : Int32) = (0 : Int32)))).1) ?_
      show SS p e below T1023 m 323 #[iv p1, iv p2, iv p3, iv p4, iv p5, rv b1, rv b3, rv b5, rv b16, rv b27, rv v1, rv b962_0, rv b963, rv b974_0, rv b975_0] [] _
      refine XS.aload X1023.here hx rfl (hb hby at_323) rfl rfl ?_
      refine st1024 _ ?_
      refine XS.iloadN X1024.here hx rfl (hb hby at_328) rfl ?_
      refine XS.aload X1024.here hx rfl (hb hby at_329) rfl rfl ?_
      refine XS.aload X1024.here hx rfl (hb hby at_331) rfl rfl ?_
      refine st1028 _ ?_
      refine XS.ifNo X1028.here hx rfl (hb hby at_336) rfl ((if0 _ _).trans (feq (by decide : ¬ ((1 : Int32) = (0 : Int32)))).1) ?_
      refine XS.iconst X1028.here hx rfl (hb hby at_339) ?_
      refine XS.goto X1028.here hx rfl (pc0 := 340) (pc' := 344) rfl (hb hby at_340) (by decide) (by decide) ?_
      show SS p e below T1028 m 344 #[iv p1, iv p2, iv p3, iv p4, iv p5, rv b1, rv b3, rv b5, rv b16, rv b27, rv v1, rv b962_0, rv b963, rv b974_0, rv b975_0] [(.int (1 : Int32))] _
      exact retN X1028 hx (t := .boolean) Bd.returns (by simp) (hb hby at_344) hr
    · obtain ⟨x1038, hx1038⟩ : ∃ w, (if (((p5.toUInt32 >>> ((2 : Int32) &&& 31).toUInt32).toInt32) &&& (1 : Int32)) = (0 : Int32) then b1 else b3) = w := ⟨_, rfl⟩
      have fc1039 := (((fc958.keep K962).ext E963).keep K964)
      have fc1040 := (((fc959.keep K962).ext E963).keep K964)
      have Ex1038 := own_iteE hx1038 fc1039 fc1040
      obtain ⟨_, T1041, L1041, X1041, hQ1041, st1041⟩ := own_cS X964 hx hZ hown hml (cw10 hw) (rm9_1 l Z a0 hw p5 b1 b3 w_DEFAULTCAPACITY_EMPTY_ELEMENTDATA x1038 k_w_DEFAULTCAPACITY_EMPTY_ELEMENTDATA T964.heap n0 OL964 hf973 pr46 hx1038 pr48 Ex1038) rfl 224 #[iv p1, iv p2, iv p3, iv p4, iv p5, rv b1, rv b3, rv b5, rv b16, rv b27, rv v1, rv b962_0, rv b963, uu, uu] [(.int p5), (.ref b1), (.ref b3)] [] 0 rfl (hb hby at_224) (by decide)
      obtain ⟨b1041_0, b1041_1, kx1041_0, rfl, Nq1041, K1041, u1041_0, u1041_1, u1041_2, u1041_3, u1041_4, u1041_5, u1041_6, u1041_7, u1041_8, u1041_9⟩ := hQ1041
      have OL1041 := OL964.keep K1041 all0
      have g_b1041_0 : n0 ≤ b1041_0 := Nat.le_trans (Nat.le_trans (Nat.le_of_eq OL964.1.symm) OL964.2.1) u1041_0
      have g_b1041_1 : n0 ≤ b1041_1 := Nat.le_trans (Nat.le_trans (Nat.le_of_eq OL964.1.symm) OL964.2.1) u1041_1
      have N1041 := Fr.app N964 Nq1041
      have fc1043 := (u964_3.keep K1041 nin0)
      have fc1044 := (u964_4.keep K1041 nin0)
      have fc1045 := (u964_5.keep K1041 nin0)
      have fc1046 := (u964_6.keep K1041 nin0)
      have fc1047 := (u964_7.keep K1041 nin0)
      have fc1048 := (Ex1038.keep K1041)
      have fc1049 := ((A963.keep K964).keep K1041)
      obtain ⟨_, T1042, L1042, X1042, hQ1042, st1042⟩ := own_cV X1041 hx hZ hown hml (cw18 hw) (rm32_1 l Z a0 hw b963 b1041_0 b5 b16 v1 b1041_1 mir_objs x1038 kx1041_0 w_EMPTY T1041.heap n0 OL1041 fc1043 fc1044 fc1045 fc1046 fc1047 u1041_3 u1041_6 u1041_5 pr52 u1041_9 u1041_7 fc1048 pr53) rfl fc1049 233 #[iv p1, iv p2, iv p3, iv p4, iv p5, rv b1, rv b3, rv b5, rv b16, rv b27, rv v1, rv b962_0, rv b963, rv b1041_0, uu] [(.ref b1041_0)] [] 0 rfl (hb hby at_233) (by decide)
      obtain ⟨b1042_0, b1042_1, rfl, Nq1042, K1042, u1042_0, u1042_1, u1042_2, u1042_3, u1042_4, u1042_5, u1042_6, u1042_7, u1042_8, u1042_9, u1042_10, u1042_11, u1042_12⟩ := hQ1042
      have OL1042 := OL1041.keep K1042 all0
      have N1042 := Fr.app N1041 Nq1042
      have fc1051 := (u1041_4.keep K1042 nin0)
      have fc1052 := (u1041_3.keep K1042)
      have fc1053 := (u1041_5.keep K1042 nin0)
      have fc1054 := (u1041_6.keep K1042 nin0)
      have fc1055 := (u1041_7.keep K1042 nin0)
      have fc1056 := ((fc1039.keep K1041).keep K1042)
      obtain ⟨_, T1050, L1050, X1050, hQ1050, st1050⟩ := own_cV X1042 hx hZ hown hml (cw23 hw) (rm14_1 l Z a0 hw b1041_0 b1 b1041_1 x1038 kx1041_0 T1042.heap n0 OL1042 fc1051 fc1052 g_b1041_0 fc1053 fc1054 fc1055 (Ne.symm u1041_2) g_b1041_1 u1041_8 fc1056 u1041_2) rfl fc1052 242 #[iv p1, iv p2, iv p3, iv p4, iv p5, rv b1, rv b3, rv b5, rv b16, rv b27, rv v1, rv b962_0, rv b963, rv b1041_0, rv b1042_0] [(.ref b1)] [] 0 rfl (hb hby at_242) (by decide)
      obtain ⟨rfl, Nq1050, K1050, u1050_0, u1050_1, u1050_2, u1050_3⟩ := hQ1050
      have OL1050 := OL1042.keep K1050 (allS g_b1041_0 (allS g_b1041_1 all0))
      have N1050 := Fr.app N1042 Nq1050
      have nz1058 := (nl u962_6.lt (Nat.le_of_eq g963.symm))
      have lz1059 := (lq fc967.lt K964.1)
      have nz1060 := nl lz1059 u1041_1
      have nz1061 := nl lz1059 u1041_0
      have fc1062 := (((((u962_4.ext E963).keep K964 (ninS nz1058 nin0)).keep K1041 nin0).keep K1042 nin0).keep K1050 (ninS nz1061 (ninS nz1060 nin0)))
      have fc1063 := ((((fc965.keep K964).keep K1041).keep K1042).keep K1050)
      have fc1064 := ((((fc967.keep K964 (ninS nz1058 nin0)).keep K1041 nin0).keep K1042 nin0).keep K1050 (ninS nz1061 (ninS nz1060 nin0)))
      have fc1065 := ((((fc966.keep K964 (ninS nz1058 nin0)).keep K1041 nin0).keep K1042 nin0).keep K1050 (ninS nz1061 (ninS nz1060 nin0)))
      have nz1066 := (nl u962_9.lt (Nat.le_of_eq g963.symm))
      have lz1067 := (lq fc969.lt K964.1)
      have nz1068 := nl lz1067 u1041_1
      have nz1069 := nl lz1067 u1041_0
      have fc1070 := ((((fc969.keep K964 (ninS nz1066 nin0)).keep K1041 nin0).keep K1042 nin0).keep K1050 (ninS nz1069 (ninS nz1068 nin0)))
      have fc1071 := (((fc1040.keep K1041).keep K1042).keep K1050)
      obtain ⟨_, T1057, L1057, X1057, hQ1057, st1057⟩ := own_cV X1050 hx hZ hown hml (cw23 hw) (rm14_3 l Z a0 hw b962_0 b3 b962_1 x957 x960 x961 kx962_0 T1050.heap n0 OL1050 fc1062 fc1063 g_b962_0 fc1064 fc1065 fc1070 (Ne.symm u962_2) g_b962_1 u962_8 fc1071 u962_2) rfl fc1063 250 #[iv p1, iv p2, iv p3, iv p4, iv p5, rv b1, rv b3, rv b5, rv b16, rv b27, rv v1, rv b962_0, rv b963, rv b1041_0, rv b1042_0] [(.ref b3)] [] 0 rfl (hb hby at_250) (by decide)
      obtain ⟨rfl, Nq1057, K1057, u1057_0, u1057_1, u1057_2, u1057_3⟩ := hQ1057
      have OL1057 := OL1050.keep K1057 (allS g_b962_0 (allS g_b962_1 all0))
      have N1057 := Fr.app N1050 Nq1057
      have nz1073 := nl u1041_9.lt u1042_0
      have nz1074 := nl u1041_6.lt u1042_0
      have lz1075 := (lq lz1067 K1041.1)
      have nz1076 := nl lz1075 u1042_0
      have lz1077 := (lq lz1059 K1041.1)
      have nz1078 := nl lz1077 u1042_0
      have fc1079 := ((u1042_4.keep K1050 (ninS (Ne.symm nz1074) (ninS (Ne.symm nz1073) nin0))).keep K1057 (ninS (Ne.symm nz1078) (ninS (Ne.symm nz1076) nin0)))
      have fc1080 := ((u1042_3.keep K1050).keep K1057)
      obtain ⟨_, T1072, L1072, X1072, hQ1072, st1072⟩ := own_cV X1057 hx hZ hown hml (cw24 hw) (rm34_0 l Z a0 hw b1042_0 b5 T1057.heap n0 OL1057 fc1079) rfl fc1080 256 #[iv p1, iv p2, iv p3, iv p4, iv p5, rv b1, rv b3, rv b5, rv b16, rv b27, rv v1, rv b962_0, rv b963, rv b1041_0, rv b1042_0] [] [] 0 rfl (hb hby at_256) (by decide)
      obtain ⟨rfl, Nq1072, ec1072⟩ := hQ1072
      have N1072 := Fr.app N1057 Nq1072
      have fc1082 := ((((((((((((((((((((((((((fc12.keep K11).ext E16).ext E17).wr W19).wr W21).keep K22).ext E27).wr W30).wr W33).wr W36).wr W39).wr W42).wr W45).wr W48).wr W51).wr W54).wr W57).wr W60).wr W63).keep K962).ext E963).keep K964).keep K1041).keep K1042).keep K1050).keep K1057)
      obtain ⟨_, T1081, L1081, X1081, hQ1081, st1081⟩ := own_cV X1072 hx hZ hown hml (cw25 hw) (rm35_0 l Z a0 hw b5 T1057.heap n0 OL1057 ) ec1072 fc1082 261 #[iv p1, iv p2, iv p3, iv p4, iv p5, rv b1, rv b3, rv b5, rv b16, rv b27, rv v1, rv b962_0, rv b963, rv b1041_0, rv b1042_0] [(.ref b5)] [] 0 rfl (hb hby at_261) (by decide)
      obtain ⟨rfl, Nq1081, ec1081⟩ := hQ1081
      have N1081 := Fr.app N1072 Nq1081
      have fc1084 := ((u1042_5.keep K1050 (ninS (Ne.symm nz1074) (ninS (Ne.symm nz1073) nin0))).keep K1057 (ninS (Ne.symm nz1078) (ninS (Ne.symm nz1076) nin0)))
      obtain ⟨_, T1083, L1083, X1083, hQ1083, st1083⟩ := own_cV X1081 hx hZ hown hml (cw26 hw) (rm36_0 l Z a0 hw b1042_0 b16 T1057.heap n0 OL1057 fc1084) ec1081 fc1080 269 #[iv p1, iv p2, iv p3, iv p4, iv p5, rv b1, rv b3, rv b5, rv b16, rv b27, rv v1, rv b962_0, rv b963, rv b1041_0, rv b1042_0] [] [] 0 rfl (hb hby at_269) (by decide)
      obtain ⟨rfl, Nq1083, ec1083⟩ := hQ1083
      have N1083 := Fr.app N1081 Nq1083
      have fc1086 := (((((((((((((((((((((fc23.keep K22).ext E27).wr W30).wr W33).wr W36).wr W39).wr W42).wr W45).wr W48).wr W51).wr W54).wr W57).wr W60).wr W63).keep K962).ext E963).keep K964).keep K1041).keep K1042).keep K1050).keep K1057)
      obtain ⟨_, T1085, L1085, X1085, hQ1085, st1085⟩ := own_cV X1083 hx hZ hown hml (cw25 hw) (rm35_0 l Z a0 hw b16 T1057.heap n0 OL1057 ) ec1083 fc1086 274 #[iv p1, iv p2, iv p3, iv p4, iv p5, rv b1, rv b3, rv b5, rv b16, rv b27, rv v1, rv b962_0, rv b963, rv b1041_0, rv b1042_0] [(.ref b16)] [] 0 rfl (hb hby at_274) (by decide)
      obtain ⟨rfl, Nq1085, ec1085⟩ := hQ1085
      have N1085 := Fr.app N1083 Nq1085
      have fc1088 := ((u1042_6.keep K1050 (ninS (Ne.symm nz1074) (ninS (Ne.symm nz1073) nin0))).keep K1057 (ninS (Ne.symm nz1078) (ninS (Ne.symm nz1076) nin0)))
      obtain ⟨_, T1087, L1087, X1087, hQ1087, st1087⟩ := own_cV X1085 hx hZ hown hml (cw27 hw) (rm37_0 l Z a0 hw b1042_0 v1 T1057.heap n0 OL1057 fc1088) ec1085 fc1080 282 #[iv p1, iv p2, iv p3, iv p4, iv p5, rv b1, rv b3, rv b5, rv b16, rv b27, rv v1, rv b962_0, rv b963, rv b1041_0, rv b1042_0] [] [] 0 rfl (hb hby at_282) (by decide)
      obtain ⟨rfl, Nq1087, ec1087⟩ := hQ1087
      have N1087 := Fr.app N1085 Nq1087
      have fc1090 := ((u1042_7.keep K1050 (ninS (Ne.symm nz1074) (ninS (Ne.symm nz1073) nin0))).keep K1057 (ninS (Ne.symm nz1078) (ninS (Ne.symm nz1076) nin0)))
      obtain ⟨_, T1089, L1089, X1089, hQ1089, st1089⟩ := own_cV X1087 hx hZ hown hml (cw28 hw) (rm38_0 l Z a0 hw b1042_0 T1057.heap n0 OL1057 fc1090) ec1087 fc1080 292 #[iv p1, iv p2, iv p3, iv p4, iv p5, rv b1, rv b3, rv b5, rv b16, rv b27, rv v1, rv b962_0, rv b963, rv b1041_0, rv b1042_0] [] [] 0 rfl (hb hby at_292) (by decide)
      obtain ⟨rfl, Nq1089, ec1089⟩ := hQ1089
      have N1089 := Fr.app N1087 Nq1089
      have fc1092 := ((u1042_8.keep K1050 (ninS (Ne.symm nz1074) (ninS (Ne.symm nz1073) nin0))).keep K1057 (ninS (Ne.symm nz1078) (ninS (Ne.symm nz1076) nin0)))
      obtain ⟨_, T1091, L1091, X1091, hQ1091, st1091⟩ := own_cV X1089 hx hZ hown hml (cw29 hw) (rm39_0 l Z a0 hw b1042_0 T1057.heap n0 OL1057 fc1092) ec1089 fc1080 300 #[iv p1, iv p2, iv p3, iv p4, iv p5, rv b1, rv b3, rv b5, rv b16, rv b27, rv v1, rv b962_0, rv b963, rv b1041_0, rv b1042_0] [] [] 0 rfl (hb hby at_300) (by decide)
      obtain ⟨rfl, Nq1091, ec1091⟩ := hQ1091
      have N1091 := Fr.app N1089 Nq1091
      have fc1094 := ((u1042_9.keep K1050 (ninS (Ne.symm nz1074) (ninS (Ne.symm nz1073) nin0))).keep K1057 (ninS (Ne.symm nz1078) (ninS (Ne.symm nz1076) nin0)))
      obtain ⟨_, T1093, L1093, X1093, hQ1093, st1093⟩ := own_cV X1091 hx hZ hown hml (cw30 hw) (rm40_1 l Z a0 hw b1042_0 b1042_1 T1057.heap n0 OL1057 fc1094) ec1091 fc1080 308 #[iv p1, iv p2, iv p3, iv p4, iv p5, rv b1, rv b3, rv b5, rv b16, rv b27, rv v1, rv b962_0, rv b963, rv b1041_0, rv b1042_0] [] [] 0 rfl (hb hby at_308) (by decide)
      obtain ⟨rfl, Nq1093, ec1093⟩ := hQ1093
      have N1093 := Fr.app N1091 Nq1093
      have nz1096 := nl u1041_9.lt u1042_1
      have nz1097 := nl u1041_6.lt u1042_1
      have nz1098 := nl lz1075 u1042_1
      have nz1099 := nl lz1077 u1042_1
      have fc1100 := ((u1042_12.keep K1050 (ninS (Ne.symm nz1097) (ninS (Ne.symm nz1096) nin0))).keep K1057 (ninS (Ne.symm nz1099) (ninS (Ne.symm nz1098) nin0)))
      have fc1101 := ((u1042_10.keep K1050).keep K1057)
      have fc1102 := ((u1042_11.keep K1050 (ninS (Ne.symm nz1097) (ninS (Ne.symm nz1096) nin0))).keep K1057 (ninS (Ne.symm nz1099) (ninS (Ne.symm nz1098) nin0)))
      obtain ⟨_, T1095, L1095, X1095, hQ1095, st1095⟩ := own_cS X1093 hx hZ hown hml (cw32 hw) (rm41_1 l Z a0 hw b1042_1 p5 b1 b3 w_EMPTY x1038 T1057.heap n0 OL1057 hf973 fc1100 pr53 fc1101 fc1102 hx1038) ec1093 317 #[iv p1, iv p2, iv p3, iv p4, iv p5, rv b1, rv b3, rv b5, rv b16, rv b27, rv v1, rv b962_0, rv b963, rv b1041_0, rv b1042_0] [(.ref b1042_1), (.int p5), (.ref b1), (.ref b3)] [] 0 rfl (hb hby at_317) (by decide)
      obtain ⟨rfl, Nq1095, ec1095⟩ := hQ1095
      have N1095 := Fr.app N1093 Nq1095
      have nz1104 := nl u964_8.lt u1041_1
      have nz1105 := nl u964_8.lt u1041_0
      have fc1106 := ((((u964_8.keep K1041 nin0).keep K1042 nin0).keep K1050 (ninS nz1105 (ninS nz1104 nin0))).keep K1057 (ninS (Ne.symm nz1058) (ninS (Ne.symm nz1066) nin0)))
      have fc1107 := (((fc1049.keep K1042).keep K1050).keep K1057)
      obtain ⟨_, T1103, L1103, X1103, hQ1103, st1103⟩ := own_cV X1095 hx hZ hown hml (cw30 hw) (rm40_1 l Z a0 hw b963 b964_0 T1057.heap n0 OL1057 fc1106) ec1095 fc1107 325 #[iv p1, iv p2, iv p3, iv p4, iv p5, rv b1, rv b3, rv b5, rv b16, rv b27, rv v1, rv b962_0, rv b963, rv b1041_0, rv b1042_0] [] [] 0 rfl (hb hby at_325) (by decide)
      obtain ⟨rfl, Nq1103, ec1103⟩ := hQ1103
      have N1103 := Fr.app N1095 Nq1103
      have nz1109 := nl u964_9.lt u1041_1
      have nz1110 := nl u964_9.lt u1041_0
      have nz1111 := nl fc969.lt u964_0
      have nz1112 := nl fc967.lt u964_0
      have fc1113 := ((((u964_10.keep K1041 nin0).keep K1042 nin0).keep K1050 (ninS nz1110 (ninS nz1109 nin0))).keep K1057 (ninS (Ne.symm nz1112) (ninS (Ne.symm nz1111) nin0)))
      have nz1114 := nl u964_14.lt u1041_1
      have nz1115 := nl u964_14.lt u1041_0
      have nz1116 := nl fc969.lt u964_1
      have nz1117 := nl fc967.lt u964_1
      have fc1118 := ((((u964_12.keep K1041 nin0).keep K1042 nin0).keep K1050 (ninS nz1115 (ninS nz1114 nin0))).keep K1057 (ninS (Ne.symm nz1117) (ninS (Ne.symm nz1116) nin0)))
      have fc1119 := ((((u964_9.keep K1041).keep K1042).keep K1050).keep K1057)
      obtain ⟨_, T1108, L1108, X1108, hQ1108, st1108⟩ := own_cS X1103 hx hZ hown hml (cw32 hw) (rm41_3 l Z a0 hw b964_0 p4 b1 b3 b964_1 x957 x960 x961 kx964_0 T1057.heap n0 OL1057 hf65 fc1113 fc1118 fc1119 hx957 hx960 hx961) ec1103 333 #[iv p1, iv p2, iv p3, iv p4, iv p5, rv b1, rv b3, rv b5, rv b16, rv b27, rv v1, rv b962_0, rv b963, rv b1041_0, rv b1042_0] [(.ref b964_0), (.int p4), (.ref b1), (.ref b3)] [] 0 rfl (hb hby at_333) (by decide)
      obtain ⟨rfl, Nq1108, ec1108⟩ := hQ1108
      have N1108 := Fr.app N1103 Nq1108
      obtain ⟨fs, hr, hrun, hended, hW, hsame⟩ := X1108.leave (v := some (.int (1 : Int32))) (fun h => by rw [Bd.returns] at h; cases h)
      refine ⟨_, _, pre973 _ ?_, hrun, hended, _, _, rfl, ⟨rfl, N1108⟩, ⟨_, rfl⟩, hW, hsame.mono (by decide) (by decide)⟩
      refine st1041 _ ?_
      show SS p e below T1041 m 227 #[iv p1, iv p2, iv p3, iv p4, iv p5, rv b1, rv b3, rv b5, rv b16, rv b27, rv v1, rv b962_0, rv b963, uu, uu] [(.ref b1041_0)] _
      refine XS.astore X1041.here hx rfl (hb hby at_227) rfl rfl (l' := #[iv p1, iv p2, iv p3, iv p4, iv p5, rv b1, rv b3, rv b5, rv b16, rv b27, rv v1, rv b962_0, rv b963, rv b1041_0, uu]) rfl ?_
      refine XS.aload X1041.here hx rfl (hb hby at_229) rfl rfl ?_
      refine XS.aload X1041.here hx rfl (hb hby at_231) rfl rfl ?_
      refine st1042 _ ?_
      refine XS.astore X1042.here hx rfl (hb hby at_236) rfl rfl (l' := #[iv p1, iv p2, iv p3, iv p4, iv p5, rv b1, rv b3, rv b5, rv b16, rv b27, rv v1, rv b962_0, rv b963, rv b1041_0, rv b1042_0]) rfl ?_
      refine XS.aload X1042.here hx rfl (hb hby at_238) rfl rfl ?_
      refine XS.aload X1042.here hx rfl (hb hby at_240) rfl rfl ?_
      refine st1050 _ ?_
      refine XS.pop X1050.here hx rfl (hb hby at_245) rfl rfl ?_
      refine XS.aload X1050.here hx rfl (hb hby at_246) rfl rfl ?_
      show SS p e below T1050 m 248 #[iv p1, iv p2, iv p3, iv p4, iv p5, rv b1, rv b3, rv b5, rv b16, rv b27, rv v1, rv b962_0, rv b963, rv b1041_0, rv b1042_0] [(.ref b962_0)] _
      refine XS.aload X1050.here hx rfl (hb hby at_248) rfl rfl ?_
      refine st1057 _ ?_
      refine XS.pop X1057.here hx rfl (hb hby at_253) rfl rfl ?_
      refine XS.aload X1057.here hx rfl (hb hby at_254) rfl rfl ?_
      refine st1072 _ ?_
      refine XS.aload X1072.here hx rfl (hb hby at_259) rfl rfl ?_
      refine st1081 _ ?_
      refine XS.ifNo X1081.here hx rfl (hb hby at_264) rfl ((if0 _ _).trans (feq (by decide : ¬ ((1 : Int32) = (0 : Int32)))).1) ?_
      refine XS.aload X1081.here hx rfl (hb hby at_267) rfl rfl ?_
      refine st1083 _ ?_
      show SS p e below T1083 m 272 #[iv p1, iv p2, iv p3, iv p4, iv p5, rv b1, rv b3, rv b5, rv b16, rv b27, rv v1, rv b962_0, rv b963, rv b1041_0, rv b1042_0] [(.ref b16)] _
      refine XS.aload X1083.here hx rfl (hb hby at_272) rfl rfl ?_
      refine st1085 _ ?_
      refine XS.ifNo X1085.here hx rfl (hb hby at_277) rfl ((if0 _ _).trans (feq (by decide : ¬ ((1 : Int32) = (0 : Int32)))).1) ?_
      refine XS.aload X1085.here hx rfl (hb hby at_280) rfl rfl ?_
      refine st1087 _ ?_
      refine XS.aload X1087.here hx rfl (hb hby at_285) rfl rfl ?_
      refine Jvm.RoadKit.acmp (g := (mkF m 287 #[iv p1, iv p2, iv p3, iv p4, iv p5, rv b1, rv b3, rv b5, rv b16, rv b27, rv v1, rv b962_0, rv b963, rv b1041_0, rv b1042_0] [(.ref v1), (.ref v1)])) X1087 hx rfl rfl rfl (pc0 := 287) (pc' := 290) (same := true) rfl (hb hby at_287) rfl (decide_eq_true rfl) (by decide) (by decide) ?_
      refine XS.aload X1087.here hx rfl (hb hby at_290) rfl rfl ?_
      refine st1089 _ ?_
      refine XS.ifnonnullNo X1089.here hx rfl (hb hby at_295) rfl ?_
      show SS p e below T1089 m 298 #[iv p1, iv p2, iv p3, iv p4, iv p5, rv b1, rv b3, rv b5, rv b16, rv b27, rv v1, rv b962_0, rv b963, rv b1041_0, rv b1042_0] [] _
      refine XS.aload X1089.here hx rfl (hb hby at_298) rfl rfl ?_
      refine st1091 _ ?_
      refine XS.ifnonnullNo X1091.here hx rfl (hb hby at_303) rfl ?_
      refine XS.aload X1091.here hx rfl (hb hby at_306) rfl rfl ?_
      refine st1093 _ ?_
      refine XS.iload X1093.here hx rfl (hb hby at_311) rfl ?_
      refine XS.aload X1093.here hx rfl (hb hby at_313) rfl rfl ?_
      refine XS.aload X1093.here hx rfl (hb hby at_315) rfl rfl ?_
      refine st1095 _ ?_
      refine XS.ifNo X1095.here hx rfl (hb hby at_320) rfl ((if0 _ _).trans (feq (by decide : ¬ ((1 : Int32) = (0 : Int32)))).1) ?_
      show SS p e below T1095 m 323 #[iv p1, iv p2, iv p3, iv p4, iv p5, rv b1, rv b3, rv b5, rv b16, rv b27, rv v1, rv b962_0, rv b963, rv b1041_0, rv b1042_0] [] _
      refine XS.aload X1095.here hx rfl (hb hby at_323) rfl rfl ?_
      refine st1103 _ ?_
      refine XS.iloadN X1103.here hx rfl (hb hby at_328) rfl ?_
      refine XS.aload X1103.here hx rfl (hb hby at_329) rfl rfl ?_
      refine XS.aload X1103.here hx rfl (hb hby at_331) rfl rfl ?_
      refine st1108 _ ?_
      refine XS.ifNo X1108.here hx rfl (hb hby at_336) rfl ((if0 _ _).trans (feq (by decide : ¬ ((1 : Int32) = (0 : Int32)))).1) ?_
      refine XS.iconst X1108.here hx rfl (hb hby at_339) ?_
      refine XS.goto X1108.here hx rfl (pc0 := 340) (pc' := 344) rfl (hb hby at_340) (by decide) (by decide) ?_
      show SS p e below T1108 m 344 #[iv p1, iv p2, iv p3, iv p4, iv p5, rv b1, rv b3, rv b5, rv b16, rv b27, rv v1, rv b962_0, rv b963, rv b1041_0, rv b1042_0] [(.int (1 : Int32))] _
      exact retN X1108 hx (t := .boolean) Bd.returns (by simp) (hb hby at_344) hr
    · obtain ⟨x1120, hx1120⟩ : ∃ w, (if (((p5.toUInt32 >>> ((2 : Int32) &&& 31).toUInt32).toInt32) &&& (1 : Int32)) = (0 : Int32) then b1 else b3) = w := ⟨_, rfl⟩
      have fc1121 := (((fc958.keep K962).ext E963).keep K964)
      have fc1122 := (((fc959.keep K962).ext E963).keep K964)
      have Ex1120 := own_iteE hx1120 fc1121 fc1122
      obtain ⟨x1123, hx1123⟩ : ∃ w, (if (((p5.toUInt32 >>> ((3 : Int32) &&& 31).toUInt32).toInt32) &&& (1 : Int32)) = (0 : Int32) then b1 else b3) = w := ⟨_, rfl⟩
      have Ex1123 := own_iteE hx1123 fc1121 fc1122
      have Gx1123 := own_iteG hx1123 g_b1 g_b3
      obtain ⟨_, T1124, L1124, X1124, hQ1124, st1124⟩ := own_cS X964 hx hZ hown hml (cw10 hw) (rm9_2 l Z a0 hw p5 b1 b3 w_DEFAULTCAPACITY_EMPTY_ELEMENTDATA x1120 k_w_DEFAULTCAPACITY_EMPTY_ELEMENTDATA x1123 T964.heap n0 OL964 hf973 pr46 hx1120 pr48 Ex1120 hx1123 Ex1123) rfl 224 #[iv p1, iv p2, iv p3, iv p4, iv p5, rv b1, rv b3, rv b5, rv b16, rv b27, rv v1, rv b962_0, rv b963, uu, uu] [(.int p5), (.ref b1), (.ref b3)] [] 0 rfl (hb hby at_224) (by decide)
      obtain ⟨b1124_0, b1124_1, kx1124_0, rfl, Nq1124, K1124, u1124_0, u1124_1, u1124_2, u1124_3, u1124_4, u1124_5, u1124_6, u1124_7, u1124_8, u1124_9⟩ := hQ1124
      have OL1124 := OL964.keep K1124 all0
      have g_b1124_0 : n0 ≤ b1124_0 := Nat.le_trans (Nat.le_trans (Nat.le_of_eq OL964.1.symm) OL964.2.1) u1124_0
      have g_b1124_1 : n0 ≤ b1124_1 := Nat.le_trans (Nat.le_trans (Nat.le_of_eq OL964.1.symm) OL964.2.1) u1124_1
      have N1124 := Fr.app N964 Nq1124
      have fc1126 := (u964_3.keep K1124 nin0)
      have fc1127 := (u964_4.keep K1124 nin0)
      have fc1128 := (u964_5.keep K1124 nin0)
      have fc1129 := (u964_6.keep K1124 nin0)
      have fc1130 := (u964_7.keep K1124 nin0)
      have fc1131 := (Ex1123.keep K1124)
      have fc1132 := (Ex1120.keep K1124)
      have fc1133 := ((A963.keep K964).keep K1124)
      obtain ⟨_, T1125, L1125, X1125, hQ1125, st1125⟩ := own_cV X1124 hx hZ hown hml (cw18 hw) (rm32_2 l Z a0 hw b963 b1124_0 b5 b16 v1 b1124_1 mir_objs x1120 x1123 kx1124_0 T1124.heap n0 OL1124 fc1126 fc1127 fc1128 fc1129 fc1130 u1124_3 u1124_6 u1124_5 pr52 u1124_9 u1124_7 fc1131 fc1132) rfl fc1133 233 #[iv p1, iv p2, iv p3, iv p4, iv p5, rv b1, rv b3, rv b5, rv b16, rv b27, rv v1, rv b962_0, rv b963, rv b1124_0, uu] [(.ref b1124_0)] [] 0 rfl (hb hby at_233) (by decide)
      obtain ⟨b1125_0, b1125_1, rfl, Nq1125, K1125, u1125_0, u1125_1, u1125_2, u1125_3, u1125_4, u1125_5, u1125_6, u1125_7, u1125_8, u1125_9, u1125_10, u1125_11, u1125_12⟩ := hQ1125
      have OL1125 := OL1124.keep K1125 all0
      have N1125 := Fr.app N1124 Nq1125
      have fc1135 := (u1124_4.keep K1125 nin0)
      have fc1136 := (u1124_3.keep K1125)
      have fc1137 := (u1124_5.keep K1125 nin0)
      have fc1138 := (u1124_6.keep K1125 nin0)
      have fc1139 := (u1124_7.keep K1125 nin0)
      have fc1140 := ((fc1121.keep K1124).keep K1125)
      obtain ⟨_, T1134, L1134, X1134, hQ1134, st1134⟩ := own_cV X1125 hx hZ hown hml (cw23 hw) (rm14_2 l Z a0 hw b1124_0 b1 b1124_1 x1120 x1123 kx1124_0 T1125.heap n0 OL1125 fc1135 fc1136 g_b1124_0 fc1137 fc1138 fc1139 (Ne.symm u1124_2) g_b1124_1 u1124_8 fc1140 u1124_2) rfl fc1136 242 #[iv p1, iv p2, iv p3, iv p4, iv p5, rv b1, rv b3, rv b5, rv b16, rv b27, rv v1, rv b962_0, rv b963, rv b1124_0, rv b1125_0] [(.ref b1)] [] 0 rfl (hb hby at_242) (by decide)
      obtain ⟨rfl, Nq1134, K1134, u1134_0, u1134_1, u1134_2, u1134_3⟩ := hQ1134
      have OL1134 := OL1125.keep K1134 (allS g_b1124_0 (allS g_b1124_1 all0))
      have N1134 := Fr.app N1125 Nq1134
      have nz1142 := (nl u962_6.lt (Nat.le_of_eq g963.symm))
      have lz1143 := (lq fc967.lt K964.1)
      have nz1144 := nl lz1143 u1124_1
      have nz1145 := nl lz1143 u1124_0
      have fc1146 := (((((u962_4.ext E963).keep K964 (ninS nz1142 nin0)).keep K1124 nin0).keep K1125 nin0).keep K1134 (ninS nz1145 (ninS nz1144 nin0)))
      have fc1147 := ((((fc965.keep K964).keep K1124).keep K1125).keep K1134)
      have fc1148 := ((((fc967.keep K964 (ninS nz1142 nin0)).keep K1124 nin0).keep K1125 nin0).keep K1134 (ninS nz1145 (ninS nz1144 nin0)))
      have fc1149 := ((((fc966.keep K964 (ninS nz1142 nin0)).keep K1124 nin0).keep K1125 nin0).keep K1134 (ninS nz1145 (ninS nz1144 nin0)))
      have nz1150 := (nl u962_9.lt (Nat.le_of_eq g963.symm))
      have lz1151 := (lq fc969.lt K964.1)
      have nz1152 := nl lz1151 u1124_1
      have nz1153 := nl lz1151 u1124_0
      have fc1154 := ((((fc969.keep K964 (ninS nz1150 nin0)).keep K1124 nin0).keep K1125 nin0).keep K1134 (ninS nz1153 (ninS nz1152 nin0)))
      have fc1155 := (((fc1122.keep K1124).keep K1125).keep K1134)
      obtain ⟨_, T1141, L1141, X1141, hQ1141, st1141⟩ := own_cV X1134 hx hZ hown hml (cw23 hw) (rm14_3 l Z a0 hw b962_0 b3 b962_1 x957 x960 x961 kx962_0 T1134.heap n0 OL1134 fc1146 fc1147 g_b962_0 fc1148 fc1149 fc1154 (Ne.symm u962_2) g_b962_1 u962_8 fc1155 u962_2) rfl fc1147 250 #[iv p1, iv p2, iv p3, iv p4, iv p5, rv b1, rv b3, rv b5, rv b16, rv b27, rv v1, rv b962_0, rv b963, rv b1124_0, rv b1125_0] [(.ref b3)] [] 0 rfl (hb hby at_250) (by decide)
      obtain ⟨rfl, Nq1141, K1141, u1141_0, u1141_1, u1141_2, u1141_3⟩ := hQ1141
      have OL1141 := OL1134.keep K1141 (allS g_b962_0 (allS g_b962_1 all0))
      have N1141 := Fr.app N1134 Nq1141
      have nz1157 := nl u1124_9.lt u1125_0
      have nz1158 := nl u1124_6.lt u1125_0
      have lz1159 := (lq lz1151 K1124.1)
      have nz1160 := nl lz1159 u1125_0
      have lz1161 := (lq lz1143 K1124.1)
      have nz1162 := nl lz1161 u1125_0
      have fc1163 := ((u1125_4.keep K1134 (ninS (Ne.symm nz1158) (ninS (Ne.symm nz1157) nin0))).keep K1141 (ninS (Ne.symm nz1162) (ninS (Ne.symm nz1160) nin0)))
      have fc1164 := ((u1125_3.keep K1134).keep K1141)
      obtain ⟨_, T1156, L1156, X1156, hQ1156, st1156⟩ := own_cV X1141 hx hZ hown hml (cw24 hw) (rm34_0 l Z a0 hw b1125_0 b5 T1141.heap n0 OL1141 fc1163) rfl fc1164 256 #[iv p1, iv p2, iv p3, iv p4, iv p5, rv b1, rv b3, rv b5, rv b16, rv b27, rv v1, rv b962_0, rv b963, rv b1124_0, rv b1125_0] [] [] 0 rfl (hb hby at_256) (by decide)
      obtain ⟨rfl, Nq1156, ec1156⟩ := hQ1156
      have N1156 := Fr.app N1141 Nq1156
      have fc1166 := ((((((((((((((((((((((((((fc12.keep K11).ext E16).ext E17).wr W19).wr W21).keep K22).ext E27).wr W30).wr W33).wr W36).wr W39).wr W42).wr W45).wr W48).wr W51).wr W54).wr W57).wr W60).wr W63).keep K962).ext E963).keep K964).keep K1124).keep K1125).keep K1134).keep K1141)
      obtain ⟨_, T1165, L1165, X1165, hQ1165, st1165⟩ := own_cV X1156 hx hZ hown hml (cw25 hw) (rm35_0 l Z a0 hw b5 T1141.heap n0 OL1141 ) ec1156 fc1166 261 #[iv p1, iv p2, iv p3, iv p4, iv p5, rv b1, rv b3, rv b5, rv b16, rv b27, rv v1, rv b962_0, rv b963, rv b1124_0, rv b1125_0] [(.ref b5)] [] 0 rfl (hb hby at_261) (by decide)
      obtain ⟨rfl, Nq1165, ec1165⟩ := hQ1165
      have N1165 := Fr.app N1156 Nq1165
      have fc1168 := ((u1125_5.keep K1134 (ninS (Ne.symm nz1158) (ninS (Ne.symm nz1157) nin0))).keep K1141 (ninS (Ne.symm nz1162) (ninS (Ne.symm nz1160) nin0)))
      obtain ⟨_, T1167, L1167, X1167, hQ1167, st1167⟩ := own_cV X1165 hx hZ hown hml (cw26 hw) (rm36_0 l Z a0 hw b1125_0 b16 T1141.heap n0 OL1141 fc1168) ec1165 fc1164 269 #[iv p1, iv p2, iv p3, iv p4, iv p5, rv b1, rv b3, rv b5, rv b16, rv b27, rv v1, rv b962_0, rv b963, rv b1124_0, rv b1125_0] [] [] 0 rfl (hb hby at_269) (by decide)
      obtain ⟨rfl, Nq1167, ec1167⟩ := hQ1167
      have N1167 := Fr.app N1165 Nq1167
      have fc1170 := (((((((((((((((((((((fc23.keep K22).ext E27).wr W30).wr W33).wr W36).wr W39).wr W42).wr W45).wr W48).wr W51).wr W54).wr W57).wr W60).wr W63).keep K962).ext E963).keep K964).keep K1124).keep K1125).keep K1134).keep K1141)
      obtain ⟨_, T1169, L1169, X1169, hQ1169, st1169⟩ := own_cV X1167 hx hZ hown hml (cw25 hw) (rm35_0 l Z a0 hw b16 T1141.heap n0 OL1141 ) ec1167 fc1170 274 #[iv p1, iv p2, iv p3, iv p4, iv p5, rv b1, rv b3, rv b5, rv b16, rv b27, rv v1, rv b962_0, rv b963, rv b1124_0, rv b1125_0] [(.ref b16)] [] 0 rfl (hb hby at_274) (by decide)
      obtain ⟨rfl, Nq1169, ec1169⟩ := hQ1169
      have N1169 := Fr.app N1167 Nq1169
      have fc1172 := ((u1125_6.keep K1134 (ninS (Ne.symm nz1158) (ninS (Ne.symm nz1157) nin0))).keep K1141 (ninS (Ne.symm nz1162) (ninS (Ne.symm nz1160) nin0)))
      obtain ⟨_, T1171, L1171, X1171, hQ1171, st1171⟩ := own_cV X1169 hx hZ hown hml (cw27 hw) (rm37_0 l Z a0 hw b1125_0 v1 T1141.heap n0 OL1141 fc1172) ec1169 fc1164 282 #[iv p1, iv p2, iv p3, iv p4, iv p5, rv b1, rv b3, rv b5, rv b16, rv b27, rv v1, rv b962_0, rv b963, rv b1124_0, rv b1125_0] [] [] 0 rfl (hb hby at_282) (by decide)
      obtain ⟨rfl, Nq1171, ec1171⟩ := hQ1171
      have N1171 := Fr.app N1169 Nq1171
      have fc1174 := ((u1125_7.keep K1134 (ninS (Ne.symm nz1158) (ninS (Ne.symm nz1157) nin0))).keep K1141 (ninS (Ne.symm nz1162) (ninS (Ne.symm nz1160) nin0)))
      obtain ⟨_, T1173, L1173, X1173, hQ1173, st1173⟩ := own_cV X1171 hx hZ hown hml (cw28 hw) (rm38_0 l Z a0 hw b1125_0 T1141.heap n0 OL1141 fc1174) ec1171 fc1164 292 #[iv p1, iv p2, iv p3, iv p4, iv p5, rv b1, rv b3, rv b5, rv b16, rv b27, rv v1, rv b962_0, rv b963, rv b1124_0, rv b1125_0] [] [] 0 rfl (hb hby at_292) (by decide)
      obtain ⟨rfl, Nq1173, ec1173⟩ := hQ1173
      have N1173 := Fr.app N1171 Nq1173
      have fc1176 := ((u1125_8.keep K1134 (ninS (Ne.symm nz1158) (ninS (Ne.symm nz1157) nin0))).keep K1141 (ninS (Ne.symm nz1162) (ninS (Ne.symm nz1160) nin0)))
      obtain ⟨_, T1175, L1175, X1175, hQ1175, st1175⟩ := own_cV X1173 hx hZ hown hml (cw29 hw) (rm39_0 l Z a0 hw b1125_0 T1141.heap n0 OL1141 fc1176) ec1173 fc1164 300 #[iv p1, iv p2, iv p3, iv p4, iv p5, rv b1, rv b3, rv b5, rv b16, rv b27, rv v1, rv b962_0, rv b963, rv b1124_0, rv b1125_0] [] [] 0 rfl (hb hby at_300) (by decide)
      obtain ⟨rfl, Nq1175, ec1175⟩ := hQ1175
      have N1175 := Fr.app N1173 Nq1175
      have fc1178 := ((u1125_9.keep K1134 (ninS (Ne.symm nz1158) (ninS (Ne.symm nz1157) nin0))).keep K1141 (ninS (Ne.symm nz1162) (ninS (Ne.symm nz1160) nin0)))
      obtain ⟨_, T1177, L1177, X1177, hQ1177, st1177⟩ := own_cV X1175 hx hZ hown hml (cw30 hw) (rm40_1 l Z a0 hw b1125_0 b1125_1 T1141.heap n0 OL1141 fc1178) ec1175 fc1164 308 #[iv p1, iv p2, iv p3, iv p4, iv p5, rv b1, rv b3, rv b5, rv b16, rv b27, rv v1, rv b962_0, rv b963, rv b1124_0, rv b1125_0] [] [] 0 rfl (hb hby at_308) (by decide)
      obtain ⟨rfl, Nq1177, ec1177⟩ := hQ1177
      have N1177 := Fr.app N1175 Nq1177
      have nz1180 := nl u1124_9.lt u1125_1
      have nz1181 := nl u1124_6.lt u1125_1
      have nz1182 := nl lz1159 u1125_1
      have nz1183 := nl lz1161 u1125_1
      have fc1184 := ((u1125_12.keep K1134 (ninS (Ne.symm nz1181) (ninS (Ne.symm nz1180) nin0))).keep K1141 (ninS (Ne.symm nz1183) (ninS (Ne.symm nz1182) nin0)))
      have fc1185 := ((u1125_10.keep K1134).keep K1141)
      have fc1186 := ((u1125_11.keep K1134 (ninS (Ne.symm nz1181) (ninS (Ne.symm nz1180) nin0))).keep K1141 (ninS (Ne.symm nz1183) (ninS (Ne.symm nz1182) nin0)))
      obtain ⟨_, T1179, L1179, X1179, hQ1179, st1179⟩ := own_cS X1177 hx hZ hown hml (cw32 hw) (rm41_2 l Z a0 hw b1125_1 p5 b1 b3 x1123 w_EMPTY x1120 T1141.heap n0 OL1141 hf973 fc1184 pr53 pr54 Gx1123 fc1185 fc1186 hx1120 hx1123) ec1177 317 #[iv p1, iv p2, iv p3, iv p4, iv p5, rv b1, rv b3, rv b5, rv b16, rv b27, rv v1, rv b962_0, rv b963, rv b1124_0, rv b1125_0] [(.ref b1125_1), (.int p5), (.ref b1), (.ref b3)] [] 0 rfl (hb hby at_317) (by decide)
      obtain ⟨rfl, Nq1179, ec1179⟩ := hQ1179
      have N1179 := Fr.app N1177 Nq1179
      have nz1188 := nl u964_8.lt u1124_1
      have nz1189 := nl u964_8.lt u1124_0
      have fc1190 := ((((u964_8.keep K1124 nin0).keep K1125 nin0).keep K1134 (ninS nz1189 (ninS nz1188 nin0))).keep K1141 (ninS (Ne.symm nz1142) (ninS (Ne.symm nz1150) nin0)))
      have fc1191 := (((fc1133.keep K1125).keep K1134).keep K1141)
      obtain ⟨_, T1187, L1187, X1187, hQ1187, st1187⟩ := own_cV X1179 hx hZ hown hml (cw30 hw) (rm40_1 l Z a0 hw b963 b964_0 T1141.heap n0 OL1141 fc1190) ec1179 fc1191 325 #[iv p1, iv p2, iv p3, iv p4, iv p5, rv b1, rv b3, rv b5, rv b16, rv b27, rv v1, rv b962_0, rv b963, rv b1124_0, rv b1125_0] [] [] 0 rfl (hb hby at_325) (by decide)
      obtain ⟨rfl, Nq1187, ec1187⟩ := hQ1187
      have N1187 := Fr.app N1179 Nq1187
      have nz1193 := nl u964_9.lt u1124_1
      have nz1194 := nl u964_9.lt u1124_0
      have nz1195 := nl fc969.lt u964_0
      have nz1196 := nl fc967.lt u964_0
      have fc1197 := ((((u964_10.keep K1124 nin0).keep K1125 nin0).keep K1134 (ninS nz1194 (ninS nz1193 nin0))).keep K1141 (ninS (Ne.symm nz1196) (ninS (Ne.symm nz1195) nin0)))
      have nz1198 := nl u964_14.lt u1124_1
      have nz1199 := nl u964_14.lt u1124_0
      have nz1200 := nl fc969.lt u964_1
      have nz1201 := nl fc967.lt u964_1
      have fc1202 := ((((u964_12.keep K1124 nin0).keep K1125 nin0).keep K1134 (ninS nz1199 (ninS nz1198 nin0))).keep K1141 (ninS (Ne.symm nz1201) (ninS (Ne.symm nz1200) nin0)))
      have fc1203 := ((((u964_9.keep K1124).keep K1125).keep K1134).keep K1141)
      obtain ⟨_, T1192, L1192, X1192, hQ1192, st1192⟩ := own_cS X1187 hx hZ hown hml (cw32 hw) (rm41_3 l Z a0 hw b964_0 p4 b1 b3 b964_1 x957 x960 x961 kx964_0 T1141.heap n0 OL1141 hf65 fc1197 fc1202 fc1203 hx957 hx960 hx961) ec1187 333 #[iv p1, iv p2, iv p3, iv p4, iv p5, rv b1, rv b3, rv b5, rv b16, rv b27, rv v1, rv b962_0, rv b963, rv b1124_0, rv b1125_0] [(.ref b964_0), (.int p4), (.ref b1), (.ref b3)] [] 0 rfl (hb hby at_333) (by decide)
      obtain ⟨rfl, Nq1192, ec1192⟩ := hQ1192
      have N1192 := Fr.app N1187 Nq1192
      obtain ⟨fs, hr, hrun, hended, hW, hsame⟩ := X1192.leave (v := some (.int (1 : Int32))) (fun h => by rw [Bd.returns] at h; cases h)
      refine ⟨_, _, pre973 _ ?_, hrun, hended, _, _, rfl, ⟨rfl, N1192⟩, ⟨_, rfl⟩, hW, hsame.mono (by decide) (by decide)⟩
      refine st1124 _ ?_
      show SS p e below T1124 m 227 #[iv p1, iv p2, iv p3, iv p4, iv p5, rv b1, rv b3, rv b5, rv b16, rv b27, rv v1, rv b962_0, rv b963, uu, uu] [(.ref b1124_0)] _
      refine XS.astore X1124.here hx rfl (hb hby at_227) rfl rfl (l' := #[iv p1, iv p2, iv p3, iv p4, iv p5, rv b1, rv b3, rv b5, rv b16, rv b27, rv v1, rv b962_0, rv b963, rv b1124_0, uu]) rfl ?_
      refine XS.aload X1124.here hx rfl (hb hby at_229) rfl rfl ?_
      refine XS.aload X1124.here hx rfl (hb hby at_231) rfl rfl ?_
      refine st1125 _ ?_
      refine XS.astore X1125.here hx rfl (hb hby at_236) rfl rfl (l' := #[iv p1, iv p2, iv p3, iv p4, iv p5, rv b1, rv b3, rv b5, rv b16, rv b27, rv v1, rv b962_0, rv b963, rv b1124_0, rv b1125_0]) rfl ?_
      refine XS.aload X1125.here hx rfl (hb hby at_238) rfl rfl ?_
      refine XS.aload X1125.here hx rfl (hb hby at_240) rfl rfl ?_
      refine st1134 _ ?_
      refine XS.pop X1134.here hx rfl (hb hby at_245) rfl rfl ?_
      refine XS.aload X1134.here hx rfl (hb hby at_246) rfl rfl ?_
      show SS p e below T1134 m 248 #[iv p1, iv p2, iv p3, iv p4, iv p5, rv b1, rv b3, rv b5, rv b16, rv b27, rv v1, rv b962_0, rv b963, rv b1124_0, rv b1125_0] [(.ref b962_0)] _
      refine XS.aload X1134.here hx rfl (hb hby at_248) rfl rfl ?_
      refine st1141 _ ?_
      refine XS.pop X1141.here hx rfl (hb hby at_253) rfl rfl ?_
      refine XS.aload X1141.here hx rfl (hb hby at_254) rfl rfl ?_
      refine st1156 _ ?_
      refine XS.aload X1156.here hx rfl (hb hby at_259) rfl rfl ?_
      refine st1165 _ ?_
      refine XS.ifNo X1165.here hx rfl (hb hby at_264) rfl ((if0 _ _).trans (feq (by decide : ¬ ((1 : Int32) = (0 : Int32)))).1) ?_
      refine XS.aload X1165.here hx rfl (hb hby at_267) rfl rfl ?_
      refine st1167 _ ?_
      show SS p e below T1167 m 272 #[iv p1, iv p2, iv p3, iv p4, iv p5, rv b1, rv b3, rv b5, rv b16, rv b27, rv v1, rv b962_0, rv b963, rv b1124_0, rv b1125_0] [(.ref b16)] _
      refine XS.aload X1167.here hx rfl (hb hby at_272) rfl rfl ?_
      refine st1169 _ ?_
      refine XS.ifNo X1169.here hx rfl (hb hby at_277) rfl ((if0 _ _).trans (feq (by decide : ¬ ((1 : Int32) = (0 : Int32)))).1) ?_
      refine XS.aload X1169.here hx rfl (hb hby at_280) rfl rfl ?_
      refine st1171 _ ?_
      refine XS.aload X1171.here hx rfl (hb hby at_285) rfl rfl ?_
      refine Jvm.RoadKit.acmp (g := (mkF m 287 #[iv p1, iv p2, iv p3, iv p4, iv p5, rv b1, rv b3, rv b5, rv b16, rv b27, rv v1, rv b962_0, rv b963, rv b1124_0, rv b1125_0] [(.ref v1), (.ref v1)])) X1171 hx rfl rfl rfl (pc0 := 287) (pc' := 290) (same := true) rfl (hb hby at_287) rfl (decide_eq_true rfl) (by decide) (by decide) ?_
      refine XS.aload X1171.here hx rfl (hb hby at_290) rfl rfl ?_
      refine st1173 _ ?_
      refine XS.ifnonnullNo X1173.here hx rfl (hb hby at_295) rfl ?_
      show SS p e below T1173 m 298 #[iv p1, iv p2, iv p3, iv p4, iv p5, rv b1, rv b3, rv b5, rv b16, rv b27, rv v1, rv b962_0, rv b963, rv b1124_0, rv b1125_0] [] _
      refine XS.aload X1173.here hx rfl (hb hby at_298) rfl rfl ?_
      refine st1175 _ ?_
      refine XS.ifnonnullNo X1175.here hx rfl (hb hby at_303) rfl ?_
      refine XS.aload X1175.here hx rfl (hb hby at_306) rfl rfl ?_
      refine st1177 _ ?_
      refine XS.iload X1177.here hx rfl (hb hby at_311) rfl ?_
      refine XS.aload X1177.here hx rfl (hb hby at_313) rfl rfl ?_
      refine XS.aload X1177.here hx rfl (hb hby at_315) rfl rfl ?_
      refine st1179 _ ?_
      refine XS.ifNo X1179.here hx rfl (hb hby at_320) rfl ((if0 _ _).trans (feq (by decide : ¬ ((1 : Int32) = (0 : Int32)))).1) ?_
      show SS p e below T1179 m 323 #[iv p1, iv p2, iv p3, iv p4, iv p5, rv b1, rv b3, rv b5, rv b16, rv b27, rv v1, rv b962_0, rv b963, rv b1124_0, rv b1125_0] [] _
      refine XS.aload X1179.here hx rfl (hb hby at_323) rfl rfl ?_
      refine st1187 _ ?_
      refine XS.iloadN X1187.here hx rfl (hb hby at_328) rfl ?_
      refine XS.aload X1187.here hx rfl (hb hby at_329) rfl rfl ?_
      refine XS.aload X1187.here hx rfl (hb hby at_331) rfl rfl ?_
      refine st1192 _ ?_
      refine XS.ifNo X1192.here hx rfl (hb hby at_336) rfl ((if0 _ _).trans (feq (by decide : ¬ ((1 : Int32) = (0 : Int32)))).1) ?_
      refine XS.iconst X1192.here hx rfl (hb hby at_339) ?_
      refine XS.goto X1192.here hx rfl (pc0 := 340) (pc' := 344) rfl (hb hby at_340) (by decide) (by decide) ?_
      show SS p e below T1192 m 344 #[iv p1, iv p2, iv p3, iv p4, iv p5, rv b1, rv b3, rv b5, rv b16, rv b27, rv v1, rv b962_0, rv b963, rv b1124_0, rv b1125_0] [(.int (1 : Int32))] _
      exact retN X1192 hx (t := .boolean) Bd.returns (by simp) (hb hby at_344) hr
    · obtain ⟨x1204, hx1204⟩ : ∃ w, (if (((p5.toUInt32 >>> ((2 : Int32) &&& 31).toUInt32).toInt32) &&& (1 : Int32)) = (0 : Int32) then b1 else b3) = w := ⟨_, rfl⟩
      have fc1205 := (((fc958.keep K962).ext E963).keep K964)
      have fc1206 := (((fc959.keep K962).ext E963).keep K964)
      have Ex1204 := own_iteE hx1204 fc1205 fc1206
      obtain ⟨x1207, hx1207⟩ : ∃ w, (if (((p5.toUInt32 >>> ((3 : Int32) &&& 31).toUInt32).toInt32) &&& (1 : Int32)) = (0 : Int32) then b1 else b3) = w := ⟨_, rfl⟩
      have Ex1207 := own_iteE hx1207 fc1205 fc1206
      obtain ⟨x1208, hx1208⟩ : ∃ w, (if (((p5.toUInt32 >>> ((4 : Int32) &&& 31).toUInt32).toInt32) &&& (1 : Int32)) = (0 : Int32) then b1 else b3) = w := ⟨_, rfl⟩
      have Ex1208 := own_iteE hx1208 fc1205 fc1206
      obtain ⟨_, T1209, L1209, X1209, hQ1209, st1209⟩ := own_cS X964 hx hZ hown hml (cw10 hw) (rm9_3 l Z a0 hw p5 b1 b3 w_DEFAULTCAPACITY_EMPTY_ELEMENTDATA x1204 k_w_DEFAULTCAPACITY_EMPTY_ELEMENTDATA x1207 x1208 T964.heap n0 OL964 hf973 pr46 hx1204 pr48 Ex1204 hx1207 Ex1207 hx1208 Ex1208) rfl 224 #[iv p1, iv p2, iv p3, iv p4, iv p5, rv b1, rv b3, rv b5, rv b16, rv b27, rv v1, rv b962_0, rv b963, uu, uu] [(.int p5), (.ref b1), (.ref b3)] [] 0 rfl (hb hby at_224) (by decide)
      obtain ⟨b1209_0, b1209_1, kx1209_0, rfl, Nq1209, K1209, u1209_0, u1209_1, u1209_2, u1209_3, u1209_4, u1209_5, u1209_6, u1209_7, u1209_8, u1209_9⟩ := hQ1209
      have OL1209 := OL964.keep K1209 all0
      have g_b1209_0 : n0 ≤ b1209_0 := Nat.le_trans (Nat.le_trans (Nat.le_of_eq OL964.1.symm) OL964.2.1) u1209_0
      have g_b1209_1 : n0 ≤ b1209_1 := Nat.le_trans (Nat.le_trans (Nat.le_of_eq OL964.1.symm) OL964.2.1) u1209_1
      have N1209 := Fr.app N964 Nq1209
      have fc1211 := (u964_3.keep K1209 nin0)
      have fc1212 := (u964_4.keep K1209 nin0)
      have fc1213 := (u964_5.keep K1209 nin0)
      have fc1214 := (u964_6.keep K1209 nin0)
      have fc1215 := (u964_7.keep K1209 nin0)
      have fc1216 := (Ex1208.keep K1209)
      have fc1217 := (Ex1207.keep K1209)
      have fc1218 := (Ex1204.keep K1209)
      have fc1219 := ((A963.keep K964).keep K1209)
      obtain ⟨_, T1210, L1210, X1210, hQ1210, st1210⟩ := own_cV X1209 hx hZ hown hml (cw18 hw) (rm32_3 l Z a0 hw b963 b1209_0 b5 b16 v1 b1209_1 mir_objs x1204 x1207 x1208 kx1209_0 T1209.heap n0 OL1209 fc1211 fc1212 fc1213 fc1214 fc1215 u1209_3 u1209_6 u1209_5 pr52 u1209_9 u1209_7 fc1216 fc1217 fc1218) rfl fc1219 233 #[iv p1, iv p2, iv p3, iv p4, iv p5, rv b1, rv b3, rv b5, rv b16, rv b27, rv v1, rv b962_0, rv b963, rv b1209_0, uu] [(.ref b1209_0)] [] 0 rfl (hb hby at_233) (by decide)
      obtain ⟨b1210_0, b1210_1, b1210_2, kx1210_0, rfl, Nq1210, K1210, u1210_0, u1210_1, u1210_2, u1210_3, u1210_4, u1210_5, u1210_6, u1210_7, u1210_8, u1210_9, u1210_10, u1210_11, u1210_12, u1210_13, u1210_14, u1210_15, u1210_16, u1210_17, u1210_18⟩ := hQ1210
      have OL1210 := OL1209.keep K1210 all0
      have N1210 := Fr.app N1209 Nq1210
      have fc1221 := (u1209_4.keep K1210 nin0)
      have fc1222 := (u1209_3.keep K1210)
      have fc1223 := (u1209_5.keep K1210 nin0)
      have fc1224 := (u1209_6.keep K1210 nin0)
      have fc1225 := (u1209_7.keep K1210 nin0)
      have fc1226 := ((fc1205.keep K1209).keep K1210)
      obtain ⟨_, T1220, L1220, X1220, hQ1220, st1220⟩ := own_cV X1210 hx hZ hown hml (cw23 hw) (rm14_3 l Z a0 hw b1209_0 b1 b1209_1 x1204 x1207 x1208 kx1209_0 T1210.heap n0 OL1210 fc1221 fc1222 g_b1209_0 fc1223 fc1224 fc1225 (Ne.symm u1209_2) g_b1209_1 u1209_8 fc1226 u1209_2) rfl fc1222 242 #[iv p1, iv p2, iv p3, iv p4, iv p5, rv b1, rv b3, rv b5, rv b16, rv b27, rv v1, rv b962_0, rv b963, rv b1209_0, rv b1210_0] [(.ref b1)] [] 0 rfl (hb hby at_242) (by decide)
      obtain ⟨rfl, Nq1220, K1220, u1220_0, u1220_1, u1220_2, u1220_3⟩ := hQ1220
      have OL1220 := OL1210.keep K1220 (allS g_b1209_0 (allS g_b1209_1 all0))
      have N1220 := Fr.app N1210 Nq1220
      have nz1228 := (nl u962_6.lt (Nat.le_of_eq g963.symm))
      have lz1229 := (lq fc967.lt K964.1)
      have nz1230 := nl lz1229 u1209_1
      have nz1231 := nl lz1229 u1209_0
      have fc1232 := (((((u962_4.ext E963).keep K964 (ninS nz1228 nin0)).keep K1209 nin0).keep K1210 nin0).keep K1220 (ninS nz1231 (ninS nz1230 nin0)))
      have fc1233 := ((((fc965.keep K964).keep K1209).keep K1210).keep K1220)
      have fc1234 := ((((fc967.keep K964 (ninS nz1228 nin0)).keep K1209 nin0).keep K1210 nin0).keep K1220 (ninS nz1231 (ninS nz1230 nin0)))
      have fc1235 := ((((fc966.keep K964 (ninS nz1228 nin0)).keep K1209 nin0).keep K1210 nin0).keep K1220 (ninS nz1231 (ninS nz1230 nin0)))
      have nz1236 := (nl u962_9.lt (Nat.le_of_eq g963.symm))
      have lz1237 := (lq fc969.lt K964.1)
      have nz1238 := nl lz1237 u1209_1
      have nz1239 := nl lz1237 u1209_0
      have fc1240 := ((((fc969.keep K964 (ninS nz1236 nin0)).keep K1209 nin0).keep K1210 nin0).keep K1220 (ninS nz1239 (ninS nz1238 nin0)))
      have fc1241 := (((fc1206.keep K1209).keep K1210).keep K1220)
      obtain ⟨_, T1227, L1227, X1227, hQ1227, st1227⟩ := own_cV X1220 hx hZ hown hml (cw23 hw) (rm14_3 l Z a0 hw b962_0 b3 b962_1 x957 x960 x961 kx962_0 T1220.heap n0 OL1220 fc1232 fc1233 g_b962_0 fc1234 fc1235 fc1240 (Ne.symm u962_2) g_b962_1 u962_8 fc1241 u962_2) rfl fc1233 250 #[iv p1, iv p2, iv p3, iv p4, iv p5, rv b1, rv b3, rv b5, rv b16, rv b27, rv v1, rv b962_0, rv b963, rv b1209_0, rv b1210_0] [(.ref b3)] [] 0 rfl (hb hby at_250) (by decide)
      obtain ⟨rfl, Nq1227, K1227, u1227_0, u1227_1, u1227_2, u1227_3⟩ := hQ1227
      have OL1227 := OL1220.keep K1227 (allS g_b962_0 (allS g_b962_1 all0))
      have N1227 := Fr.app N1220 Nq1227
      have nz1243 := nl u1209_9.lt u1210_0
      have nz1244 := nl u1209_6.lt u1210_0
      have lz1245 := (lq lz1237 K1209.1)
      have nz1246 := nl lz1245 u1210_0
      have lz1247 := (lq lz1229 K1209.1)
      have nz1248 := nl lz1247 u1210_0
      have fc1249 := ((u1210_7.keep K1220 (ninS (Ne.symm nz1244) (ninS (Ne.symm nz1243) nin0))).keep K1227 (ninS (Ne.symm nz1248) (ninS (Ne.symm nz1246) nin0)))
      have fc1250 := ((u1210_6.keep K1220).keep K1227)
      obtain ⟨_, T1242, L1242, X1242, hQ1242, st1242⟩ := own_cV X1227 hx hZ hown hml (cw24 hw) (rm34_0 l Z a0 hw b1210_0 b5 T1227.heap n0 OL1227 fc1249) rfl fc1250 256 #[iv p1, iv p2, iv p3, iv p4, iv p5, rv b1, rv b3, rv b5, rv b16, rv b27, rv v1, rv b962_0, rv b963, rv b1209_0, rv b1210_0] [] [] 0 rfl (hb hby at_256) (by decide)
      obtain ⟨rfl, Nq1242, ec1242⟩ := hQ1242
      have N1242 := Fr.app N1227 Nq1242
      have fc1252 := ((((((((((((((((((((((((((fc12.keep K11).ext E16).ext E17).wr W19).wr W21).keep K22).ext E27).wr W30).wr W33).wr W36).wr W39).wr W42).wr W45).wr W48).wr W51).wr W54).wr W57).wr W60).wr W63).keep K962).ext E963).keep K964).keep K1209).keep K1210).keep K1220).keep K1227)
      obtain ⟨_, T1251, L1251, X1251, hQ1251, st1251⟩ := own_cV X1242 hx hZ hown hml (cw25 hw) (rm35_0 l Z a0 hw b5 T1227.heap n0 OL1227 ) ec1242 fc1252 261 #[iv p1, iv p2, iv p3, iv p4, iv p5, rv b1, rv b3, rv b5, rv b16, rv b27, rv v1, rv b962_0, rv b963, rv b1209_0, rv b1210_0] [(.ref b5)] [] 0 rfl (hb hby at_261) (by decide)
      obtain ⟨rfl, Nq1251, ec1251⟩ := hQ1251
      have N1251 := Fr.app N1242 Nq1251
      have fc1254 := ((u1210_8.keep K1220 (ninS (Ne.symm nz1244) (ninS (Ne.symm nz1243) nin0))).keep K1227 (ninS (Ne.symm nz1248) (ninS (Ne.symm nz1246) nin0)))
      obtain ⟨_, T1253, L1253, X1253, hQ1253, st1253⟩ := own_cV X1251 hx hZ hown hml (cw26 hw) (rm36_0 l Z a0 hw b1210_0 b16 T1227.heap n0 OL1227 fc1254) ec1251 fc1250 269 #[iv p1, iv p2, iv p3, iv p4, iv p5, rv b1, rv b3, rv b5, rv b16, rv b27, rv v1, rv b962_0, rv b963, rv b1209_0, rv b1210_0] [] [] 0 rfl (hb hby at_269) (by decide)
      obtain ⟨rfl, Nq1253, ec1253⟩ := hQ1253
      have N1253 := Fr.app N1251 Nq1253
      have fc1256 := (((((((((((((((((((((fc23.keep K22).ext E27).wr W30).wr W33).wr W36).wr W39).wr W42).wr W45).wr W48).wr W51).wr W54).wr W57).wr W60).wr W63).keep K962).ext E963).keep K964).keep K1209).keep K1210).keep K1220).keep K1227)
      obtain ⟨_, T1255, L1255, X1255, hQ1255, st1255⟩ := own_cV X1253 hx hZ hown hml (cw25 hw) (rm35_0 l Z a0 hw b16 T1227.heap n0 OL1227 ) ec1253 fc1256 274 #[iv p1, iv p2, iv p3, iv p4, iv p5, rv b1, rv b3, rv b5, rv b16, rv b27, rv v1, rv b962_0, rv b963, rv b1209_0, rv b1210_0] [(.ref b16)] [] 0 rfl (hb hby at_274) (by decide)
      obtain ⟨rfl, Nq1255, ec1255⟩ := hQ1255
      have N1255 := Fr.app N1253 Nq1255
      have fc1258 := ((u1210_9.keep K1220 (ninS (Ne.symm nz1244) (ninS (Ne.symm nz1243) nin0))).keep K1227 (ninS (Ne.symm nz1248) (ninS (Ne.symm nz1246) nin0)))
      obtain ⟨_, T1257, L1257, X1257, hQ1257, st1257⟩ := own_cV X1255 hx hZ hown hml (cw27 hw) (rm37_0 l Z a0 hw b1210_0 v1 T1227.heap n0 OL1227 fc1258) ec1255 fc1250 282 #[iv p1, iv p2, iv p3, iv p4, iv p5, rv b1, rv b3, rv b5, rv b16, rv b27, rv v1, rv b962_0, rv b963, rv b1209_0, rv b1210_0] [] [] 0 rfl (hb hby at_282) (by decide)
      obtain ⟨rfl, Nq1257, ec1257⟩ := hQ1257
      have N1257 := Fr.app N1255 Nq1257
      have fc1260 := ((u1210_10.keep K1220 (ninS (Ne.symm nz1244) (ninS (Ne.symm nz1243) nin0))).keep K1227 (ninS (Ne.symm nz1248) (ninS (Ne.symm nz1246) nin0)))
      obtain ⟨_, T1259, L1259, X1259, hQ1259, st1259⟩ := own_cV X1257 hx hZ hown hml (cw28 hw) (rm38_0 l Z a0 hw b1210_0 T1227.heap n0 OL1227 fc1260) ec1257 fc1250 292 #[iv p1, iv p2, iv p3, iv p4, iv p5, rv b1, rv b3, rv b5, rv b16, rv b27, rv v1, rv b962_0, rv b963, rv b1209_0, rv b1210_0] [] [] 0 rfl (hb hby at_292) (by decide)
      obtain ⟨rfl, Nq1259, ec1259⟩ := hQ1259
      have N1259 := Fr.app N1257 Nq1259
      have fc1262 := ((u1210_11.keep K1220 (ninS (Ne.symm nz1244) (ninS (Ne.symm nz1243) nin0))).keep K1227 (ninS (Ne.symm nz1248) (ninS (Ne.symm nz1246) nin0)))
      obtain ⟨_, T1261, L1261, X1261, hQ1261, st1261⟩ := own_cV X1259 hx hZ hown hml (cw29 hw) (rm39_0 l Z a0 hw b1210_0 T1227.heap n0 OL1227 fc1262) ec1259 fc1250 300 #[iv p1, iv p2, iv p3, iv p4, iv p5, rv b1, rv b3, rv b5, rv b16, rv b27, rv v1, rv b962_0, rv b963, rv b1209_0, rv b1210_0] [] [] 0 rfl (hb hby at_300) (by decide)
      obtain ⟨rfl, Nq1261, ec1261⟩ := hQ1261
      have N1261 := Fr.app N1259 Nq1261
      have fc1264 := ((u1210_12.keep K1220 (ninS (Ne.symm nz1244) (ninS (Ne.symm nz1243) nin0))).keep K1227 (ninS (Ne.symm nz1248) (ninS (Ne.symm nz1246) nin0)))
      obtain ⟨_, T1263, L1263, X1263, hQ1263, st1263⟩ := own_cV X1261 hx hZ hown hml (cw30 hw) (rm40_1 l Z a0 hw b1210_0 b1210_1 T1227.heap n0 OL1227 fc1264) ec1261 fc1250 308 #[iv p1, iv p2, iv p3, iv p4, iv p5, rv b1, rv b3, rv b5, rv b16, rv b27, rv v1, rv b962_0, rv b963, rv b1209_0, rv b1210_0] [] [] 0 rfl (hb hby at_308) (by decide)
      obtain ⟨rfl, Nq1263, ec1263⟩ := hQ1263
      have N1263 := Fr.app N1261 Nq1263
      have nz1266 := nl u1209_9.lt u1210_1
      have nz1267 := nl u1209_6.lt u1210_1
      have nz1268 := nl lz1245 u1210_1
      have nz1269 := nl lz1247 u1210_1
      have fc1270 := ((u1210_14.keep K1220 (ninS (Ne.symm nz1267) (ninS (Ne.symm nz1266) nin0))).keep K1227 (ninS (Ne.symm nz1269) (ninS (Ne.symm nz1268) nin0)))
      have nz1271 := nl u1209_9.lt u1210_2
      have nz1272 := nl u1209_6.lt u1210_2
      have nz1273 := nl lz1245 u1210_2
      have nz1274 := nl lz1247 u1210_2
      have fc1275 := ((u1210_16.keep K1220 (ninS (Ne.symm nz1272) (ninS (Ne.symm nz1271) nin0))).keep K1227 (ninS (Ne.symm nz1274) (ninS (Ne.symm nz1273) nin0)))
      have fc1276 := ((u1210_13.keep K1220).keep K1227)
      obtain ⟨_, T1265, L1265, X1265, hQ1265, st1265⟩ := own_cS X1263 hx hZ hown hml (cw32 hw) (rm41_3 l Z a0 hw b1210_1 p5 b1 b3 b1210_2 x1204 x1207 x1208 kx1210_0 T1227.heap n0 OL1227 hf973 fc1270 fc1275 fc1276 hx1204 hx1207 hx1208) ec1263 317 #[iv p1, iv p2, iv p3, iv p4, iv p5, rv b1, rv b3, rv b5, rv b16, rv b27, rv v1, rv b962_0, rv b963, rv b1209_0, rv b1210_0] [(.ref b1210_1), (.int p5), (.ref b1), (.ref b3)] [] 0 rfl (hb hby at_317) (by decide)
      obtain ⟨rfl, Nq1265, ec1265⟩ := hQ1265
      have N1265 := Fr.app N1263 Nq1265
      have nz1278 := nl u964_8.lt u1209_1
      have nz1279 := nl u964_8.lt u1209_0
      have fc1280 := ((((u964_8.keep K1209 nin0).keep K1210 nin0).keep K1220 (ninS nz1279 (ninS nz1278 nin0))).keep K1227 (ninS (Ne.symm nz1228) (ninS (Ne.symm nz1236) nin0)))
      have fc1281 := (((fc1219.keep K1210).keep K1220).keep K1227)
      obtain ⟨_, T1277, L1277, X1277, hQ1277, st1277⟩ := own_cV X1265 hx hZ hown hml (cw30 hw) (rm40_1 l Z a0 hw b963 b964_0 T1227.heap n0 OL1227 fc1280) ec1265 fc1281 325 #[iv p1, iv p2, iv p3, iv p4, iv p5, rv b1, rv b3, rv b5, rv b16, rv b27, rv v1, rv b962_0, rv b963, rv b1209_0, rv b1210_0] [] [] 0 rfl (hb hby at_325) (by decide)
      obtain ⟨rfl, Nq1277, ec1277⟩ := hQ1277
      have N1277 := Fr.app N1265 Nq1277
      have nz1283 := nl u964_9.lt u1209_1
      have nz1284 := nl u964_9.lt u1209_0
      have nz1285 := nl fc969.lt u964_0
      have nz1286 := nl fc967.lt u964_0
      have fc1287 := ((((u964_10.keep K1209 nin0).keep K1210 nin0).keep K1220 (ninS nz1284 (ninS nz1283 nin0))).keep K1227 (ninS (Ne.symm nz1286) (ninS (Ne.symm nz1285) nin0)))
      have nz1288 := nl u964_14.lt u1209_1
      have nz1289 := nl u964_14.lt u1209_0
      have nz1290 := nl fc969.lt u964_1
      have nz1291 := nl fc967.lt u964_1
      have fc1292 := ((((u964_12.keep K1209 nin0).keep K1210 nin0).keep K1220 (ninS nz1289 (ninS nz1288 nin0))).keep K1227 (ninS (Ne.symm nz1291) (ninS (Ne.symm nz1290) nin0)))
      have fc1293 := ((((u964_9.keep K1209).keep K1210).keep K1220).keep K1227)
      obtain ⟨_, T1282, L1282, X1282, hQ1282, st1282⟩ := own_cS X1277 hx hZ hown hml (cw32 hw) (rm41_3 l Z a0 hw b964_0 p4 b1 b3 b964_1 x957 x960 x961 kx964_0 T1227.heap n0 OL1227 hf65 fc1287 fc1292 fc1293 hx957 hx960 hx961) ec1277 333 #[iv p1, iv p2, iv p3, iv p4, iv p5, rv b1, rv b3, rv b5, rv b16, rv b27, rv v1, rv b962_0, rv b963, rv b1209_0, rv b1210_0] [(.ref b964_0), (.int p4), (.ref b1), (.ref b3)] [] 0 rfl (hb hby at_333) (by decide)
      obtain ⟨rfl, Nq1282, ec1282⟩ := hQ1282
      have N1282 := Fr.app N1277 Nq1282
      obtain ⟨fs, hr, hrun, hended, hW, hsame⟩ := X1282.leave (v := some (.int (1 : Int32))) (fun h => by rw [Bd.returns] at h; cases h)
      refine ⟨_, _, pre973 _ ?_, hrun, hended, _, _, rfl, ⟨rfl, N1282⟩, ⟨_, rfl⟩, hW, hsame.mono (by decide) (by decide)⟩
      refine st1209 _ ?_
      show SS p e below T1209 m 227 #[iv p1, iv p2, iv p3, iv p4, iv p5, rv b1, rv b3, rv b5, rv b16, rv b27, rv v1, rv b962_0, rv b963, uu, uu] [(.ref b1209_0)] _
      refine XS.astore X1209.here hx rfl (hb hby at_227) rfl rfl (l' := #[iv p1, iv p2, iv p3, iv p4, iv p5, rv b1, rv b3, rv b5, rv b16, rv b27, rv v1, rv b962_0, rv b963, rv b1209_0, uu]) rfl ?_
      refine XS.aload X1209.here hx rfl (hb hby at_229) rfl rfl ?_
      refine XS.aload X1209.here hx rfl (hb hby at_231) rfl rfl ?_
      refine st1210 _ ?_
      refine XS.astore X1210.here hx rfl (hb hby at_236) rfl rfl (l' := #[iv p1, iv p2, iv p3, iv p4, iv p5, rv b1, rv b3, rv b5, rv b16, rv b27, rv v1, rv b962_0, rv b963, rv b1209_0, rv b1210_0]) rfl ?_
      refine XS.aload X1210.here hx rfl (hb hby at_238) rfl rfl ?_
      refine XS.aload X1210.here hx rfl (hb hby at_240) rfl rfl ?_
      refine st1220 _ ?_
      refine XS.pop X1220.here hx rfl (hb hby at_245) rfl rfl ?_
      refine XS.aload X1220.here hx rfl (hb hby at_246) rfl rfl ?_
      show SS p e below T1220 m 248 #[iv p1, iv p2, iv p3, iv p4, iv p5, rv b1, rv b3, rv b5, rv b16, rv b27, rv v1, rv b962_0, rv b963, rv b1209_0, rv b1210_0] [(.ref b962_0)] _
      refine XS.aload X1220.here hx rfl (hb hby at_248) rfl rfl ?_
      refine st1227 _ ?_
      refine XS.pop X1227.here hx rfl (hb hby at_253) rfl rfl ?_
      refine XS.aload X1227.here hx rfl (hb hby at_254) rfl rfl ?_
      refine st1242 _ ?_
      refine XS.aload X1242.here hx rfl (hb hby at_259) rfl rfl ?_
      refine st1251 _ ?_
      refine XS.ifNo X1251.here hx rfl (hb hby at_264) rfl ((if0 _ _).trans (feq (by decide : ¬ ((1 : Int32) = (0 : Int32)))).1) ?_
      refine XS.aload X1251.here hx rfl (hb hby at_267) rfl rfl ?_
      refine st1253 _ ?_
      show SS p e below T1253 m 272 #[iv p1, iv p2, iv p3, iv p4, iv p5, rv b1, rv b3, rv b5, rv b16, rv b27, rv v1, rv b962_0, rv b963, rv b1209_0, rv b1210_0] [(.ref b16)] _
      refine XS.aload X1253.here hx rfl (hb hby at_272) rfl rfl ?_
      refine st1255 _ ?_
      refine XS.ifNo X1255.here hx rfl (hb hby at_277) rfl ((if0 _ _).trans (feq (by decide : ¬ ((1 : Int32) = (0 : Int32)))).1) ?_
      refine XS.aload X1255.here hx rfl (hb hby at_280) rfl rfl ?_
      refine st1257 _ ?_
      refine XS.aload X1257.here hx rfl (hb hby at_285) rfl rfl ?_
      refine Jvm.RoadKit.acmp (g := (mkF m 287 #[iv p1, iv p2, iv p3, iv p4, iv p5, rv b1, rv b3, rv b5, rv b16, rv b27, rv v1, rv b962_0, rv b963, rv b1209_0, rv b1210_0] [(.ref v1), (.ref v1)])) X1257 hx rfl rfl rfl (pc0 := 287) (pc' := 290) (same := true) rfl (hb hby at_287) rfl (decide_eq_true rfl) (by decide) (by decide) ?_
      refine XS.aload X1257.here hx rfl (hb hby at_290) rfl rfl ?_
      refine st1259 _ ?_
      refine XS.ifnonnullNo X1259.here hx rfl (hb hby at_295) rfl ?_
      show SS p e below T1259 m 298 #[iv p1, iv p2, iv p3, iv p4, iv p5, rv b1, rv b3, rv b5, rv b16, rv b27, rv v1, rv b962_0, rv b963, rv b1209_0, rv b1210_0] [] _
      refine XS.aload X1259.here hx rfl (hb hby at_298) rfl rfl ?_
      refine st1261 _ ?_
      refine XS.ifnonnullNo X1261.here hx rfl (hb hby at_303) rfl ?_
      refine XS.aload X1261.here hx rfl (hb hby at_306) rfl rfl ?_
      refine st1263 _ ?_
      refine XS.iload X1263.here hx rfl (hb hby at_311) rfl ?_
      refine XS.aload X1263.here hx rfl (hb hby at_313) rfl rfl ?_
      refine XS.aload X1263.here hx rfl (hb hby at_315) rfl rfl ?_
      refine st1265 _ ?_
      refine XS.ifNo X1265.here hx rfl (hb hby at_320) rfl ((if0 _ _).trans (feq (by decide : ¬ ((1 : Int32) = (0 : Int32)))).1) ?_
      show SS p e below T1265 m 323 #[iv p1, iv p2, iv p3, iv p4, iv p5, rv b1, rv b3, rv b5, rv b16, rv b27, rv v1, rv b962_0, rv b963, rv b1209_0, rv b1210_0] [] _
      refine XS.aload X1265.here hx rfl (hb hby at_323) rfl rfl ?_
      refine st1277 _ ?_
      refine XS.iloadN X1277.here hx rfl (hb hby at_328) rfl ?_
      refine XS.aload X1277.here hx rfl (hb hby at_329) rfl rfl ?_
      refine XS.aload X1277.here hx rfl (hb hby at_331) rfl rfl ?_
      refine st1282 _ ?_
      refine XS.ifNo X1282.here hx rfl (hb hby at_336) rfl ((if0 _ _).trans (feq (by decide : ¬ ((1 : Int32) = (0 : Int32)))).1) ?_
      refine XS.iconst X1282.here hx rfl (hb hby at_339) ?_
      refine XS.goto X1282.here hx rfl (pc0 := 340) (pc' := 344) rfl (hb hby at_340) (by decide) (by decide) ?_
      show SS p e below T1282 m 344 #[iv p1, iv p2, iv p3, iv p4, iv p5, rv b1, rv b3, rv b5, rv b16, rv b27, rv v1, rv b962_0, rv b963, rv b1209_0, rv b1210_0] [(.int (1 : Int32))] _
      exact retN X1282 hx (t := .boolean) Bd.returns (by simp) (hb hby at_344) hr
set_option maxRecDepth 65536 in
set_option maxHeartbeats 40000000 in
theorem comes_1 {Post : Tables → Env → Array Value → State → Outcome → State → Prop} (hpost : ∀ tb e args s v u, (limb_1_1.after args s (.returned v) u = true ∧ limb_1_2.after args s (.returned v) u = true ∧ True) → FrameEnd s (.returned v) u (Jvm.fieldLocs frame_1_writes args s ++ Jvm.arrayLocs frame_1_arrays args s ++ Jvm.staticLocs frame_1_statics s) 56 256 → Post tb e args s (.returned v) u) :
    ArmFor flags0 classFile x code maxLocals ret World_1 tables_1 room_1 Calls_1 rest_1 Pre_1 Post := by
  intro l hfl _ _ p e ha hc hk s m args below hf hA hF happ hP
  obtain ⟨hcalls, hrest, hpre⟩ := hP
  obtain ⟨-, -, -, hnamed, -, -, -, hat⟩ := (Spec.applies_iff hf).mp happ
  obtain ⟨hg, hn⟩ := and_e (Cond.before_iff.mp (show (Jvm.Cond.and given_1 narrow_1).before args s = true from hpre))
  obtain ⟨g46, g47⟩ := and_e hg
  obtain ⟨g48, g49⟩ := and_e g47
  obtain ⟨g50, g51⟩ := and_e g49
  obtain ⟨g52, g53⟩ := and_e g51
  obtain ⟨g54, g55⟩ := and_e g53
  obtain ⟨w0, w1, w2, w3, w4, rfl⟩ : ∃ w0 w1 w2 w3 w4 : Value, args = #[w0, w1, w2, w3, w4] := by
    have hs : args.size = 5 := by simpa [Cond.value, given_1] using g46
    obtain ⟨L⟩ := args
    match L, hs with
    | [w0, w1, w2, w3, w4], _ => exact ⟨w0, w1, w2, w3, w4, rfl⟩
  have hw := fun d (hd : d ∈ tables_1) => atoms_spec (ws := Jvm.Cond.code x code maxLocals ret :: tables_1) hat d (List.mem_cons_of_mem _ hd)
  have hfit : Fit s := fun {y c} hc i hi => by
    obtain ⟨ha, rfl⟩ := Array.getElem?_eq_some_iff.mp hc
    have q := List.all_eq_true.mp ((Array.all_eq_true_iff_forall_mem.mp hF) _ (Array.getElem_mem ha)) i (List.mem_range.mpr hi)
    simpa [Array.getElem?_eq_getElem hi] using q
  obtain ⟨hsets, hown0⟩ := atoms_of _ (rest_1_c_eq ▸ (show rest_1_c.before _ s = true from hrest))
  obtain ⟨i0, ei0⟩ := is_v g48
  obtain rfl : w0 = (.int i0) := Option.some.inj ei0
  obtain ⟨i1, ei1⟩ := is_v g50
  obtain rfl : w1 = (.int i1) := Option.some.inj ei1
  obtain ⟨i2, ei2⟩ := is_v g52
  obtain rfl : w2 = (.int i2) := Option.some.inj ei2
  obtain ⟨i3, ei3⟩ := is_v g54
  obtain rfl : w3 = (.int i3) := Option.some.inj ei3
  obtain ⟨i4, ei4⟩ := is_v g55
  obtain rfl : w4 = (.int i4) := Option.some.inj ei4
  obtain ⟨n1, n2⟩ := and_e hn
  obtain ⟨n3, n4⟩ := and_e n2
  obtain ⟨n5, n6⟩ := and_e n4
  obtain ⟨n7, n8⟩ := and_e n6
  obtain ⟨n9, n10⟩ := and_e n8
  obtain ⟨n11, n12⟩ := and_e n10
  obtain ⟨n13, n14⟩ := and_e n12
  obtain ⟨n15, n16⟩ := and_e n14
  obtain ⟨n17, n18⟩ := and_e n16
  obtain ⟨n19, n20⟩ := and_e n18
  obtain ⟨n21, n22⟩ := and_e n20
  obtain ⟨w_DAYS, ev23⟩ := exa_v n1
  have S_Basis_DAYS : Sta s s.heap "com/example/tarcal/tarcal/schedules/Basis" "DAYS" "Lcom/example/tarcal/tarcal/schedules/Basis;" (.ref w_DAYS) := Sta.start ev23 (Or.inr ⟨(wd53 hw), (wd54 hw)⟩)
  have E_w_DAYS : Exa s s.heap w_DAYS "com/example/tarcal/tarcal/schedules/Basis" := Exa.start ev23 n1
  obtain ⟨w_ENERGY, ev24⟩ := exa_v n3
  have S_Basis_ENERGY : Sta s s.heap "com/example/tarcal/tarcal/schedules/Basis" "ENERGY" "Lcom/example/tarcal/tarcal/schedules/Basis;" (.ref w_ENERGY) := Sta.start ev24 (Or.inr ⟨(wd53 hw), (wd57 hw)⟩)
  have E_w_ENERGY : Exa s s.heap w_ENERGY "com/example/tarcal/tarcal/schedules/Basis" := Exa.start ev24 n3
  obtain ⟨w_ON_PEAK_ENERGY, ev25⟩ := exa_v n5
  have S_Basis_ON_PEAK_ENERGY : Sta s s.heap "com/example/tarcal/tarcal/schedules/Basis" "ON_PEAK_ENERGY" "Lcom/example/tarcal/tarcal/schedules/Basis;" (.ref w_ON_PEAK_ENERGY) := Sta.start ev25 (Or.inr ⟨(wd53 hw), (wd59 hw)⟩)
  have E_w_ON_PEAK_ENERGY : Exa s s.heap w_ON_PEAK_ENERGY "com/example/tarcal/tarcal/schedules/Basis" := Exa.start ev25 n5
  obtain ⟨w_OFF_PEAK_ENERGY, ev26⟩ := exa_v n7
  have S_Basis_OFF_PEAK_ENERGY : Sta s s.heap "com/example/tarcal/tarcal/schedules/Basis" "OFF_PEAK_ENERGY" "Lcom/example/tarcal/tarcal/schedules/Basis;" (.ref w_OFF_PEAK_ENERGY) := Sta.start ev26 (Or.inr ⟨(wd53 hw), (wd61 hw)⟩)
  have E_w_OFF_PEAK_ENERGY : Exa s s.heap w_OFF_PEAK_ENERGY "com/example/tarcal/tarcal/schedules/Basis" := Exa.start ev26 n7
  obtain ⟨w_BILLING_DEMAND_DAYS, ev27⟩ := exa_v n9
  have S_Basis_BILLING_DEMAND_DAYS : Sta s s.heap "com/example/tarcal/tarcal/schedules/Basis" "BILLING_DEMAND_DAYS" "Lcom/example/tarcal/tarcal/schedules/Basis;" (.ref w_BILLING_DEMAND_DAYS) := Sta.start ev27 (Or.inr ⟨(wd53 hw), (wd63 hw)⟩)
  have E_w_BILLING_DEMAND_DAYS : Exa s s.heap w_BILLING_DEMAND_DAYS "com/example/tarcal/tarcal/schedules/Basis" := Exa.start ev27 n9
  obtain ⟨w_METERED_DEMAND_DAYS, ev28⟩ := exa_v n11
  have S_Basis_METERED_DEMAND_DAYS : Sta s s.heap "com/example/tarcal/tarcal/schedules/Basis" "METERED_DEMAND_DAYS" "Lcom/example/tarcal/tarcal/schedules/Basis;" (.ref w_METERED_DEMAND_DAYS) := Sta.start ev28 (Or.inr ⟨(wd53 hw), (wd65 hw)⟩)
  have E_w_METERED_DEMAND_DAYS : Exa s s.heap w_METERED_DEMAND_DAYS "com/example/tarcal/tarcal/schedules/Basis" := Exa.start ev28 n11
  obtain ⟨w_FIXTURE_DAYS, ev29⟩ := exa_v n13
  have S_Basis_FIXTURE_DAYS : Sta s s.heap "com/example/tarcal/tarcal/schedules/Basis" "FIXTURE_DAYS" "Lcom/example/tarcal/tarcal/schedules/Basis;" (.ref w_FIXTURE_DAYS) := Sta.start ev29 (Or.inr ⟨(wd53 hw), (wd67 hw)⟩)
  have E_w_FIXTURE_DAYS : Exa s s.heap w_FIXTURE_DAYS "com/example/tarcal/tarcal/schedules/Basis" := Exa.start ev29 n13
  obtain ⟨w_HIGHEST_HOUR_ENERGY, ev30⟩ := exa_v n15
  have S_Basis_HIGHEST_HOUR_ENERGY : Sta s s.heap "com/example/tarcal/tarcal/schedules/Basis" "HIGHEST_HOUR_ENERGY" "Lcom/example/tarcal/tarcal/schedules/Basis;" (.ref w_HIGHEST_HOUR_ENERGY) := Sta.start ev30 (Or.inr ⟨(wd53 hw), (wd69 hw)⟩)
  have E_w_HIGHEST_HOUR_ENERGY : Exa s s.heap w_HIGHEST_HOUR_ENERGY "com/example/tarcal/tarcal/schedules/Basis" := Exa.start ev30 n15
  obtain ⟨w_GAS_INDEXED_ENERGY, ev31⟩ := exa_v n17
  have S_Basis_GAS_INDEXED_ENERGY : Sta s s.heap "com/example/tarcal/tarcal/schedules/Basis" "GAS_INDEXED_ENERGY" "Lcom/example/tarcal/tarcal/schedules/Basis;" (.ref w_GAS_INDEXED_ENERGY) := Sta.start ev31 (Or.inr ⟨(wd53 hw), (wd71 hw)⟩)
  have E_w_GAS_INDEXED_ENERGY : Exa s s.heap w_GAS_INDEXED_ENERGY "com/example/tarcal/tarcal/schedules/Basis" := Exa.start ev31 n17
  obtain ⟨w_POOL_PRICED_ENERGY, ev32⟩ := exa_v n19
  have S_Basis_POOL_PRICED_ENERGY : Sta s s.heap "com/example/tarcal/tarcal/schedules/Basis" "POOL_PRICED_ENERGY" "Lcom/example/tarcal/tarcal/schedules/Basis;" (.ref w_POOL_PRICED_ENERGY) := Sta.start ev32 (Or.inr ⟨(wd53 hw), (wd73 hw)⟩)
  have E_w_POOL_PRICED_ENERGY : Exa s s.heap w_POOL_PRICED_ENERGY "com/example/tarcal/tarcal/schedules/Basis" := Exa.start ev32 n19
  obtain ⟨w_ISO_COSTS, ev33⟩ := exa_v n21
  have S_Basis_ISO_COSTS : Sta s s.heap "com/example/tarcal/tarcal/schedules/Basis" "ISO_COSTS" "Lcom/example/tarcal/tarcal/schedules/Basis;" (.ref w_ISO_COSTS) := Sta.start ev33 (Or.inr ⟨(wd53 hw), (wd75 hw)⟩)
  have E_w_ISO_COSTS : Exa s s.heap w_ISO_COSTS "com/example/tarcal/tarcal/schedules/Basis" := Exa.start ev33 n21
  obtain ⟨w_DISTRIBUTION_ACCESS_CHARGES, ev34⟩ := exa_v n22
  have S_Basis_DISTRIBUTION_ACCESS_CHARGES : Sta s s.heap "com/example/tarcal/tarcal/schedules/Basis" "DISTRIBUTION_ACCESS_CHARGES" "Lcom/example/tarcal/tarcal/schedules/Basis;" (.ref w_DISTRIBUTION_ACCESS_CHARGES) := Sta.start ev34 (Or.inr ⟨(wd53 hw), (wd77 hw)⟩)
  have E_w_DISTRIBUTION_ACCESS_CHARGES : Exa s s.heap w_DISTRIBUTION_ACCESS_CHARGES "com/example/tarcal/tarcal/schedules/Basis" := Exa.start ev34 n22
  obtain ⟨w_EMPTY_ELEMENTDATA, ev35⟩ := exa_v (Cond.before_iff.mp (hsets _ (List.mem_of_getElem? (i := 13) rfl)))
  have S_ArrayList_EMPTY_ELEMENTDATA : Sta s s.heap "java/util/ArrayList" "EMPTY_ELEMENTDATA" "[Ljava/lang/Object;" (.ref w_EMPTY_ELEMENTDATA) := Sta.start ev35 (Or.inl (hsets _ (List.mem_of_getElem? (i := 10) rfl)))
  have E_w_EMPTY_ELEMENTDATA : Exa s s.heap w_EMPTY_ELEMENTDATA "[Ljava/lang/Object;" := Exa.start ev35 (Cond.before_iff.mp (hsets _ (List.mem_of_getElem? (i := 13) rfl)))
  obtain ⟨w_DEFAULTCAPACITY_EMPTY_ELEMENTDATA, ev36⟩ := exa_v (Cond.before_iff.mp (hsets _ (List.mem_of_getElem? (i := 16) rfl)))
  have S_ArrayList_DEFAULTCAPACITY_EMPTY_ELEMENTDATA : Sta s s.heap "java/util/ArrayList" "DEFAULTCAPACITY_EMPTY_ELEMENTDATA" "[Ljava/lang/Object;" (.ref w_DEFAULTCAPACITY_EMPTY_ELEMENTDATA) := Sta.start ev36 (Or.inr ⟨(wd85 hw), (hsets _ (List.mem_of_getElem? (i := 11) rfl))⟩)
  have E_w_DEFAULTCAPACITY_EMPTY_ELEMENTDATA : Exa s s.heap w_DEFAULTCAPACITY_EMPTY_ELEMENTDATA "[Ljava/lang/Object;" := Exa.start ev36 (Cond.before_iff.mp (hsets _ (List.mem_of_getElem? (i := 16) rfl)))
  obtain ⟨w_EMPTY, ev37⟩ := exa_v (Cond.before_iff.mp (hsets _ (List.mem_of_getElem? (i := 20) rfl)))
  have S_ImmutableCollections_EMPTY : Sta s s.heap "java/util/ImmutableCollections" "EMPTY" "Ljava/lang/Object;" (.ref w_EMPTY) := Sta.start ev37 (Or.inl (hsets _ (List.mem_of_getElem? (i := 19) rfl)))
  have E_w_EMPTY : Exa s s.heap w_EMPTY "java/lang/Object" := Exa.start ev37 (Cond.before_iff.mp (hsets _ (List.mem_of_getElem? (i := 20) rfl)))
  obtain ⟨w_EMPTY_LIST, ev38⟩ := exa_v (Cond.before_iff.mp (hsets _ (List.mem_of_getElem? (i := 26) rfl)))
  have S_ImmutableCollections_EMPTY_LIST : Sta s s.heap "java/util/ImmutableCollections" "EMPTY_LIST" "Ljava/util/ImmutableCollections$ListN;" (.ref w_EMPTY_LIST) := Sta.start ev38 (Or.inl (hsets _ (List.mem_of_getElem? (i := 25) rfl)))
  have E_w_EMPTY_LIST : Exa s s.heap w_EMPTY_LIST "java/util/ImmutableCollections$ListN" := Exa.start ev38 (Cond.before_iff.mp (hsets _ (List.mem_of_getElem? (i := 26) rfl)))
  have E_w_EMPTY_LIST : Exa s s.heap w_EMPTY_LIST "java/util/ImmutableCollections$ListN" := Exa.start ev38 (Cond.before_iff.mp (hsets _ (List.mem_of_getElem? (i := 29) rfl)))
  obtain ⟨n_COMPACT_STRINGS, ev39⟩ := is_v (Cond.before_iff.mp (hsets _ (List.mem_of_getElem? (i := 1) rfl)))
  have S_String_COMPACT_STRINGS : Sta s s.heap "java/lang/String" "COMPACT_STRINGS" "Z" (.int n_COMPACT_STRINGS) := Sta.start ev39 (Or.inl (hsets _ (List.mem_of_getElem? (i := 0) rfl)))
  obtain ⟨w_EMPTY_LIST__elements, ev40⟩ := exa_v (Cond.before_iff.mp (hsets _ (List.mem_of_getElem? (i := 31) rfl)))
  have F_41 : Fld s s.heap w_EMPTY_LIST "java/util/ImmutableCollections$ListN" "elements" "[Ljava/lang/Object;" (.ref w_EMPTY_LIST__elements) := Fld.start ((fld_at ev38).symm.trans ev40)
  have E_w_EMPTY_LIST__elements : Exa s s.heap w_EMPTY_LIST__elements "[Ljava/lang/Object;" := Exa.start ev40 (Cond.before_iff.mp (hsets _ (List.mem_of_getElem? (i := 31) rfl)))
  have ev42 := own_eqI (Cond.before_iff.mp (hsets _ (List.mem_of_getElem? (i := 23) rfl)))
  have S_ImmutableCollections__assertionsDisabled : Sta s s.heap "java/util/ImmutableCollections" "$assertionsDisabled" "Z" (.int (1 : Int32)) := Sta.start ev42 (Or.inl (hsets _ (List.mem_of_getElem? (i := 22) rfl)))
  have ev43 := own_eqI (Cond.before_iff.mp (hsets _ (List.mem_of_getElem? (i := 33) rfl)))
  have F_44 : Fld s s.heap w_EMPTY_LIST "java/util/ImmutableCollections$ListN" "allowNulls" "Z" (.int (0 : Int32)) := Fld.start ((fld_at ev38).symm.trans ev43)
  have nz45 : ¬ (n_COMPACT_STRINGS = (0 : Int32)) := gotF (Cond.eq_ints ev39 (Term.int_eval (0))) (not_v (Cond.before_iff.mp (hsets _ (List.mem_of_getElem? (i := 2) rfl))))
  obtain ⟨k_w_EMPTY_ELEMENTDATA, V_w_EMPTY_ELEMENTDATA⟩ := own_arr0 hfit ev35 (Cond.before_iff.mp (hsets _ (List.mem_of_getElem? (i := 12) rfl))) (Cond.before_iff.mp (hsets _ (List.mem_of_getElem? (i := 14) rfl)))
  obtain ⟨k_w_DEFAULTCAPACITY_EMPTY_ELEMENTDATA, V_w_DEFAULTCAPACITY_EMPTY_ELEMENTDATA⟩ := own_arr0 hfit ev36 (Cond.before_iff.mp (hsets _ (List.mem_of_getElem? (i := 15) rfl))) (Cond.before_iff.mp (hsets _ (List.mem_of_getElem? (i := 17) rfl)))
  obtain ⟨k_w_EMPTY_LIST__elements, V_w_EMPTY_LIST__elements⟩ := own_arr0 hfit ev40 (Cond.before_iff.mp (hsets _ (List.mem_of_getElem? (i := 30) rfl))) (Cond.before_iff.mp (hsets _ (List.mem_of_getElem? (i := 32) rfl)))
  obtain ⟨cM, kM, mir_objs, m1, m2, m3, -⟩ := hcalls.1
  have M_mir_objs : MirM s "[Ljava/lang/Object;" mir_objs := ⟨cM, kM, m1, m2, m3⟩
  obtain ⟨v1, selv1, E_v1⟩ : ∃ w, ([(.ref w_DAYS), (.ref w_ENERGY), (.ref w_ON_PEAK_ENERGY), (.ref w_OFF_PEAK_ENERGY), (.ref w_BILLING_DEMAND_DAYS), (.ref w_METERED_DEMAND_DAYS), (.ref w_FIXTURE_DAYS), (.ref w_HIGHEST_HOUR_ENERGY), (.ref w_GAS_INDEXED_ENERGY), (.ref w_POOL_PRICED_ENERGY), (.ref w_ISO_COSTS), (.ref w_DISTRIBUTION_ACCESS_CHARGES)] : List Value).getD (((i2 &&& (2147483647 : Int32)) % (12 : Int32))).toNatClampNeg .null = .ref w ∧ Exa s s.heap w "com/example/tarcal/tarcal/schedules/Basis" := by
    rcases own_ix12 i2 with h | h | h | h | h | h | h | h | h | h | h | h
    · exact ⟨w_DAYS, by rw [h]; rfl, E_w_DAYS⟩
    · exact ⟨w_ENERGY, by rw [h]; rfl, E_w_ENERGY⟩
    · exact ⟨w_ON_PEAK_ENERGY, by rw [h]; rfl, E_w_ON_PEAK_ENERGY⟩
    · exact ⟨w_OFF_PEAK_ENERGY, by rw [h]; rfl, E_w_OFF_PEAK_ENERGY⟩
    · exact ⟨w_BILLING_DEMAND_DAYS, by rw [h]; rfl, E_w_BILLING_DEMAND_DAYS⟩
    · exact ⟨w_METERED_DEMAND_DAYS, by rw [h]; rfl, E_w_METERED_DEMAND_DAYS⟩
    · exact ⟨w_FIXTURE_DAYS, by rw [h]; rfl, E_w_FIXTURE_DAYS⟩
    · exact ⟨w_HIGHEST_HOUR_ENERGY, by rw [h]; rfl, E_w_HIGHEST_HOUR_ENERGY⟩
    · exact ⟨w_GAS_INDEXED_ENERGY, by rw [h]; rfl, E_w_GAS_INDEXED_ENERGY⟩
    · exact ⟨w_POOL_PRICED_ENERGY, by rw [h]; rfl, E_w_POOL_PRICED_ENERGY⟩
    · exact ⟨w_ISO_COSTS, by rw [h]; rfl, E_w_ISO_COSTS⟩
    · exact ⟨w_DISTRIBUTION_ACCESS_CHARGES, by rw [h]; rfl, E_w_DISTRIBUTION_ACCESS_CHARGES⟩
  have R : MetFree l x (head1 (Jvm.Cond.code x code maxLocals ret :: tables_1) room_1) (fun a U => a = #[(.int i0), (.int i1), (.int i2), (.int i3), (.int i4)] ∧ s.Warmed39 U.vm ∧ U.heap = s.heap) (fun _ _ _ _ _ => True) (fun _ U o U' => ∃ v L, o = .returned v ∧ Q0 s.heap.size v L ∧ FrameEnd U o U' L 56 256) := by
    exact rm0 l s _ hw tables_1 i0 i1 i2 i3 i4 _ _ _ _ _ n_COMPACT_STRINGS _ _ _ _ _ w_DAYS w_ENERGY w_ON_PEAK_ENERGY w_OFF_PEAK_ENERGY w_BILLING_DEMAND_DAYS w_METERED_DEMAND_DAYS w_FIXTURE_DAYS w_HIGHEST_HOUR_ENERGY w_GAS_INDEXED_ENERGY w_POOL_PRICED_ENERGY w_ISO_COSTS w_DISTRIBUTION_ACCESS_CHARGES _ _ v1 w_DEFAULTCAPACITY_EMPTY_ELEMENTDATA w_EMPTY_LIST k_w_DEFAULTCAPACITY_EMPTY_ELEMENTDATA w_EMPTY_LIST__elements k_w_EMPTY_LIST__elements mir_objs w_EMPTY s.heap s.heap.size (Old.start s) rfl rfl rfl rfl rfl S_String_COMPACT_STRINGS nz45 (own_c255 _) (own_c255 _) rfl rfl rfl rfl rfl (own_c255 _) (own_c255 _) S_Basis_DAYS E_w_DAYS S_Basis_ENERGY E_w_ENERGY S_Basis_ON_PEAK_ENERGY E_w_ON_PEAK_ENERGY S_Basis_OFF_PEAK_ENERGY E_w_OFF_PEAK_ENERGY S_Basis_BILLING_DEMAND_DAYS E_w_BILLING_DEMAND_DAYS S_Basis_METERED_DEMAND_DAYS E_w_METERED_DEMAND_DAYS S_Basis_FIXTURE_DAYS E_w_FIXTURE_DAYS S_Basis_HIGHEST_HOUR_ENERGY E_w_HIGHEST_HOUR_ENERGY S_Basis_GAS_INDEXED_ENERGY E_w_GAS_INDEXED_ENERGY S_Basis_POOL_PRICED_ENERGY E_w_POOL_PRICED_ENERGY S_Basis_ISO_COSTS E_w_ISO_COSTS S_Basis_DISTRIBUTION_ACCESS_CHARGES E_w_DISTRIBUTION_ACCESS_CHARGES rfl rfl (own_ix i2).1 (own_ix i2).2 selv1 S_ArrayList_DEFAULTCAPACITY_EMPTY_ELEMENTDATA S_ImmutableCollections_EMPTY_LIST V_w_DEFAULTCAPACITY_EMPTY_ELEMENTDATA F_41 V_w_EMPTY_LIST__elements E_w_EMPTY_LIST M_mir_objs S_ImmutableCollections_EMPTY E_w_EMPTY
  obtain ⟨n, o, h1, h2, h3, _, L, rfl, ⟨rfl, N⟩, hq⟩ := R p e ha hc hk s m _ below hf ((Spec.applies_iff_loose hf).mp happ).1 ⟨rfl, State.Warmed39.refl s, rfl⟩ trivial
  refine ⟨n, _, h1, h2, h3, hpost _ _ _ _ _ _ ⟨Cond.after_iff.mpr rfl, Cond.after_iff.mpr (eq_i res_at (Term.int_eval (1)) rfl), trivial⟩ ⟨hq.1, hq.2.1, (hq.2.2.sift fun y hy => Or.inr (N y hy)).mono (by decide) (by decide)⟩⟩
theorem main_1_1 : Claimed_1_1 := comes_1 fun _ _ _ _ _ _ h hF => ⟨h.1, hF⟩
theorem main_1_2 : Claimed_1_2 := comes_1 fun _ _ _ _ _ _ h hF => ⟨h.2.1, hF⟩
end Jvm.Pilot.@@N@@
namespace Jvm.Pilot.@@N@@
open Jvm Jvm.ClassFile Sem Op Lib Jvm.Free Jvm.Stand Jvm.Pilot.@@N@@.Jvm.D
/-! MADE BY PROGRAM (witnessworld.py) out of the Statement's table words and the real class files: 44 classes; the members and pool entries that the words name. The judged class is class 1, her method 4. -/
namespace start1
open Jvm.ClassFile
def u (s : String) : CpInfo := .utf8 (stringToUtf16 s)
/-- a pool by its gaps: so many unusable entries, then the entry; so many at the end -/
def gap : Nat → List CpInfo → List CpInfo
  | 0, r => r
  | n + 1, r => .unusable :: gap n r
def poolList (es : List (Nat × CpInfo)) (last : Nat) : List CpInfo := es.foldr (fun e r => gap e.1 (e.2 :: r)) (gap last [])
def pool (es : List (Nat × CpInfo)) (last : Nat) : Array CpInfo := ⟨poolList es last⟩
def fileOf (pool : Array CpInfo) (this : Nat) (attrs : Array Attribute := #[]) (ms : Array MethodInfo := #[]) (fl : Nat := 33) (sup : Nat := 0) (ifs : Array Nat := #[]) (fds : Array FieldInfo := #[]) : ClassFile where
  minorVersion := 0
  majorVersion := 65
  constantPool := pool
  accessFlags := fl
  thisClass := this
  superClass := sup
  interfaces := ifs
  fields := fds
  methods := ms
  attributes := attrs
def plain (name : String) (sup : Option ClassId) : Class where
  name := name
  kind := .ordinary
  loader := none
  accessFlags := 33
  super := sup
  interfaces := #[]
  cf := none
  fields := #[]
  methods := #[]
  instanceTypes := #[]
  staticTypes := #[]
  resolved := #[]
  callSites := []
  init := .initialized
  statics := none
  mirror := none

def pool0 : Array CpInfo := pool [(5, u "<init>"), (0, u "()V"), (1, .class_ 10), (1, u "java/lang/Object"), (0, u "getClass"), (0, u "()Ljava/lang/Class;")] 111

def k0c0 : Code := { maxStack := 0, maxLocals := 1, code := object_method_1_code, exceptionTable := #[], attributes := #[] }
def k0m0 : Method := { name := "<init>", desc := "()V", sig := { parameters := [], returnType := none }, accessFlags := 1, code := some k0c0 }
def k0m1 : Method := { name := "getClass", desc := "()Ljava/lang/Class;", sig := { parameters := [], returnType := some (.object "java/lang/Class") }, accessFlags := 273, code := none }
/-- java/lang/Object -/
def k0 : Class := { plain "java/lang/Object" none with
  accessFlags := 33
  interfaces := #[]
  cf := some (fileOf pool0 8 #[] #[{ accessFlags := 1, nameIndex := 5, descriptorIndex := 6, attributes := #[] }, { accessFlags := 273, nameIndex := 11, descriptorIndex := 12, attributes := #[] }] 33 0 #[] #[])
  fields := #[]
  methods := #[k0m0, k0m1]
  instanceTypes := #[]
  staticTypes := #[]
  resolved := Array.replicate 124 none
  statics := none }

def pool1 : Array CpInfo := pool [(2, .class_ 4), (0, .nameAndType 5 6), (0, u "java/lang/Object"), (0, u "<init>"), (0, u "()V"), (0, .class_ 8), (0, u "java/util/ArrayList"), (0, .methodref 7 3), (0, .methodref 11 12), (0, .class_ 13), (0, .nameAndType 14 15), (0, u "com/example/tarcal/tarcal/schedules/ChargeWithPricesPinLaw"), (0, u "pick"), (0, u "(IILcom/example/tarcal/tarcal/schedules/DatedPrice;Lcom/example/tarcal/tarcal/schedules/DatedPrice;)Lcom/example/tarcal/tarcal/schedules/DatedPrice;"), (0, .methodref 7 17), (0, .nameAndType 18 19), (0, u "add"), (0, u "(Ljava/lang/Object;)Z"), (0, .interfaceMethodref 21 22), (0, .class_ 23), (0, .nameAndType 24 25), (0, u "java/util/List"), (0, u "size"), (0, u "()I"), (0, .interfaceMethodref 21 27), (0, .nameAndType 28 29), (0, u "get"), (0, u "(I)Ljava/lang/Object;"), (0, .class_ 31), (0, u "com/example/tarcal/tarcal/schedules/DatedPrice"), (0, .methodref 30 33), (0, .nameAndType 5 34), (0, u "(Ljava/math/BigDecimal;Ljava/time/LocalDate;Ljava/util/Optional;Ljava/util/Optional;)V"), (0, .class_ 36), (0, u "java/lang/String"), (0, .methodref 35 38), (0, .nameAndType 5 39), (0, u "([C)V"), (0, .class_ 41), (0, u "com/example/tarcal/tarcal/schedules/Basis"), (0, .fieldref 40 43), (0, .nameAndType 44 45), (0, u "DAYS"), (0, u "Lcom/example/tarcal/tarcal/schedules/Basis;"), (0, .fieldref 40 47), (0, .nameAndType 48 45), (0, u "ENERGY"), (0, .fieldref 40 50), (0, .nameAndType 51 45), (0, u "ON_PEAK_ENERGY"), (0, .fieldref 40 53), (0, .nameAndType 54 45), (0, u "OFF_PEAK_ENERGY"), (0, .fieldref 40 56), (0, .nameAndType 57 45), (0, u "BILLING_DEMAND_DAYS"), (0, .fieldref 40 59), (0, .nameAndType 60 45), (0, u "METERED_DEMAND_DAYS"), (0, .fieldref 40 62), (0, .nameAndType 63 45), (0, u "FIXTURE_DAYS"), (0, .fieldref 40 65), (0, .nameAndType 66 45), (0, u "HIGHEST_HOUR_ENERGY"), (0, .fieldref 40 68), (0, .nameAndType 69 45), (0, u "GAS_INDEXED_ENERGY"), (0, .fieldref 40 71), (0, .nameAndType 72 45), (0, u "POOL_PRICED_ENERGY"), (0, .fieldref 40 74), (0, .nameAndType 75 45), (0, u "ISO_COSTS"), (0, .fieldref 40 77), (0, .nameAndType 78 45), (0, u "DISTRIBUTION_ACCESS_CHARGES"), (0, .integer 2147483647), (0, .methodref 11 81), (0, .nameAndType 82 83), (0, u "build"), (0, u "(ILcom/example/tarcal/tarcal/schedules/DatedPrice;Lcom/example/tarcal/tarcal/schedules/DatedPrice;)Ljava/util/ArrayList;"), (0, .class_ 85), (0, u "com/example/tarcal/tarcal/schedules/Charge"), (0, .methodref 84 87), (0, .nameAndType 5 88), (0, u "(Ljava/lang/String;Ljava/lang/String;Lcom/example/tarcal/tarcal/schedules/Basis;Ljava/util/Optional;Ljava/util/Optional;Ljava/util/List;)V"), (0, .methodref 84 90), (0, .nameAndType 91 92), (0, u "withPrices"), (0, u "(Ljava/util/List;)Lcom/example/tarcal/tarcal/schedules/Charge;"), (0, .methodref 84 94), (0, .nameAndType 95 96), (0, u "id"), (0, u "()Ljava/lang/String;"), (0, .methodref 35 98), (0, .nameAndType 99 19), (0, u "equals"), (0, .methodref 84 101), (0, .nameAndType 102 96), (0, u "name"), (0, .methodref 84 104), (0, .nameAndType 105 106), (0, u "basis"), (0, u "()Lcom/example/tarcal/tarcal/schedules/Basis;"), (0, .methodref 84 108), (0, .nameAndType 109 110), (0, u "onlyFor"), (0, u "()Ljava/util/Optional;"), (0, .methodref 84 112), (0, .nameAndType 113 110), (0, u "chargeFor"), (0, .methodref 84 115), (0, .nameAndType 116 117), (0, u "prices"), (0, u "()Ljava/util/List;"), (0, .methodref 11 119), (0, .nameAndType 120 121), (0, u "matches"), (0, u "(Ljava/util/List;ILcom/example/tarcal/tarcal/schedules/DatedPrice;Lcom/example/tarcal/tarcal/schedules/DatedPrice;)Z"), (6, u "law"), (0, u "(IIIII)Z")] 4

def k1m0 : Method := { name := "<init>", desc := "()V", sig := { parameters := [], returnType := none }, accessFlags := 2, code := none }
def k1c1 : Code := { maxStack := 3, maxLocals := 4, code := method_2_code, exceptionTable := #[], attributes := #[] }
def k1m1 : Method := { name := "pick", desc := "(IILcom/example/tarcal/tarcal/schedules/DatedPrice;Lcom/example/tarcal/tarcal/schedules/DatedPrice;)Lcom/example/tarcal/tarcal/schedules/DatedPrice;", sig := { parameters := [.int, .int, (.object "com/example/tarcal/tarcal/schedules/DatedPrice"), (.object "com/example/tarcal/tarcal/schedules/DatedPrice")], returnType := some (.object "com/example/tarcal/tarcal/schedules/DatedPrice") }, accessFlags := 10, code := some k1c1 }
def k1c2 : Code := { maxStack := 5, maxLocals := 5, code := method_3_code, exceptionTable := #[], attributes := #[] }
def k1m2 : Method := { name := "build", desc := "(ILcom/example/tarcal/tarcal/schedules/DatedPrice;Lcom/example/tarcal/tarcal/schedules/DatedPrice;)Ljava/util/ArrayList;", sig := { parameters := [.int, (.object "com/example/tarcal/tarcal/schedules/DatedPrice"), (.object "com/example/tarcal/tarcal/schedules/DatedPrice")], returnType := some (.object "java/util/ArrayList") }, accessFlags := 10, code := some k1c2 }
def k1c3 : Code := { maxStack := 5, maxLocals := 5, code := method_4_code, exceptionTable := #[], attributes := #[] }
def k1m3 : Method := { name := "matches", desc := "(Ljava/util/List;ILcom/example/tarcal/tarcal/schedules/DatedPrice;Lcom/example/tarcal/tarcal/schedules/DatedPrice;)Z", sig := { parameters := [(.object "java/util/List"), .int, (.object "com/example/tarcal/tarcal/schedules/DatedPrice"), (.object "com/example/tarcal/tarcal/schedules/DatedPrice")], returnType := some .boolean }, accessFlags := 10, code := some k1c3 }
def k1c4 : Code := { maxStack := 8, maxLocals := 15, code := code, exceptionTable := #[], attributes := #[] }
def k1m4 : Method := { name := "law", desc := "(IIIII)Z", sig := { parameters := [.int, .int, .int, .int, .int], returnType := some .boolean }, accessFlags := 9, code := some k1c4 }
/-- com/example/tarcal/tarcal/schedules/ChargeWithPricesPinLaw -/
def k1 : Class := { plain "com/example/tarcal/tarcal/schedules/ChargeWithPricesPinLaw" (some 0) with
  accessFlags := 49
  interfaces := #[]
  cf := some (fileOf pool1 11 #[] #[{ accessFlags := 2, nameIndex := 5, descriptorIndex := 6, attributes := #[] }, { accessFlags := 10, nameIndex := 14, descriptorIndex := 15, attributes := #[] }, { accessFlags := 10, nameIndex := 82, descriptorIndex := 83, attributes := #[] }, { accessFlags := 10, nameIndex := 120, descriptorIndex := 121, attributes := #[] }, { accessFlags := 9, nameIndex := 128, descriptorIndex := 129, attributes := #[] }] 49 2 #[] #[])
  fields := #[]
  methods := #[k1m0, k1m1, k1m2, k1m3, k1m4]
  instanceTypes := #[]
  staticTypes := #[]
  resolved := Array.replicate 134 none
  statics := none }

def pool2 : Array CpInfo := pool [(1, .methodref 2 3), (0, .class_ 4), (0, .nameAndType 5 6), (0, u "java/lang/Object"), (0, u "<init>"), (0, u "()V"), (0, .class_ 8), (0, u "java/lang/Record")] 13

def k2c0 : Code := { maxStack := 1, maxLocals := 1, code := jdk_30_method_1_code, exceptionTable := #[], attributes := #[] }
def k2m0 : Method := { name := "<init>", desc := "()V", sig := { parameters := [], returnType := none }, accessFlags := 4, code := some k2c0 }
/-- java/lang/Record -/
def k2 : Class := { plain "java/lang/Record" (some 0) with
  accessFlags := 1057
  interfaces := #[]
  cf := some (fileOf pool2 7 #[] #[{ accessFlags := 4, nameIndex := 5, descriptorIndex := 6, attributes := #[] }] 1057 2 #[] #[])
  fields := #[]
  methods := #[k2m0]
  instanceTypes := #[]
  staticTypes := #[]
  resolved := Array.replicate 22 none
  statics := none }

def pool3 : Array CpInfo := pool [(1, .methodref 2 3), (0, .class_ 4), (0, .nameAndType 5 6), (0, u "java/lang/Record"), (0, u "<init>"), (0, u "()V"), (0, .fieldref 8 9), (0, .class_ 10), (0, .nameAndType 11 12), (0, u "com/example/tarcal/tarcal/schedules/DatedPrice"), (0, u "price"), (0, u "Ljava/math/BigDecimal;"), (0, .fieldref 8 14), (0, .nameAndType 15 16), (0, u "firstDay"), (0, u "Ljava/time/LocalDate;"), (0, .fieldref 8 18), (0, .nameAndType 19 20), (0, u "lastDay"), (0, u "Ljava/util/Optional;"), (0, .fieldref 8 22), (0, .nameAndType 23 20), (0, u "connection"), (58, u "(Ljava/math/BigDecimal;Ljava/time/LocalDate;Ljava/util/Optional;Ljava/util/Optional;)V")] 55

def k3c0 : Code := { maxStack := 2, maxLocals := 5, code := prog_26_method_1_code, exceptionTable := #[], attributes := #[] }
def k3m0 : Method := { name := "<init>", desc := "(Ljava/math/BigDecimal;Ljava/time/LocalDate;Ljava/util/Optional;Ljava/util/Optional;)V", sig := { parameters := [(.object "java/math/BigDecimal"), (.object "java/time/LocalDate"), (.object "java/util/Optional"), (.object "java/util/Optional")], returnType := none }, accessFlags := 1, code := some k3c0 }
/-- com/example/tarcal/tarcal/schedules/DatedPrice -/
def k3 : Class := { plain "com/example/tarcal/tarcal/schedules/DatedPrice" (some 2) with
  accessFlags := 49
  interfaces := #[]
  cf := some (fileOf pool3 8 #[] #[{ accessFlags := 1, nameIndex := 5, descriptorIndex := 82, attributes := #[] }] 49 2 #[] #[{ accessFlags := 18, nameIndex := 11, descriptorIndex := 12, attributes := #[] }, { accessFlags := 18, nameIndex := 15, descriptorIndex := 16, attributes := #[] }, { accessFlags := 18, nameIndex := 19, descriptorIndex := 20, attributes := #[] }, { accessFlags := 18, nameIndex := 23, descriptorIndex := 20, attributes := #[] }])
  fields := #[{ name := "price", type := (.object "java/math/BigDecimal"), accessFlags := 18, slot := 0, constantValue := 0 }, { name := "firstDay", type := (.object "java/time/LocalDate"), accessFlags := 18, slot := 1, constantValue := 0 }, { name := "lastDay", type := (.object "java/util/Optional"), accessFlags := 18, slot := 2, constantValue := 0 }, { name := "connection", type := (.object "java/util/Optional"), accessFlags := 18, slot := 3, constantValue := 0 }]
  methods := #[k3m0]
  instanceTypes := #[(.object "java/math/BigDecimal"), (.object "java/time/LocalDate"), (.object "java/util/Optional"), (.object "java/util/Optional")]
  staticTypes := #[]
  resolved := Array.replicate 138 none
  statics := none }

def pool4 : Array CpInfo := pool [(1, .class_ 2), (0, u "java/io/Serializable"), (0, .class_ 4), (0, u "java/lang/Object")] 2

/-- java/io/Serializable -/
def k4 : Class := { plain "java/io/Serializable" (some 0) with
  accessFlags := 1537
  interfaces := #[]
  cf := some (fileOf pool4 1 #[] #[] 1537 3 #[] #[])
  fields := #[]
  methods := #[]
  instanceTypes := #[]
  staticTypes := #[]
  resolved := Array.replicate 7 none
  statics := none }

def pool5 : Array CpInfo := pool [(1, .class_ 2), (0, u "java/lang/Comparable"), (0, .class_ 4), (0, u "java/lang/Object")] 7

/-- java/lang/Comparable -/
def k5 : Class := { plain "java/lang/Comparable" (some 0) with
  accessFlags := 1537
  interfaces := #[]
  cf := some (fileOf pool5 1 #[] #[] 1537 3 #[] #[])
  fields := #[]
  methods := #[]
  instanceTypes := #[]
  staticTypes := #[]
  resolved := Array.replicate 12 none
  statics := none }

def pool6 : Array CpInfo := pool [(2, .class_ 4), (1, u "java/lang/CharSequence"), (42, .class_ 48), (0, u "java/lang/CharSequence$1CodePointIterator"), (10, .class_ 60), (0, u "java/lang/CharSequence$1CharIterator"), (5, .class_ 67), (0, u "java/lang/Object")] 63

/-- java/lang/CharSequence -/
def k6 : Class := { plain "java/lang/CharSequence" (some 0) with
  accessFlags := 1537
  interfaces := #[]
  cf := some (fileOf pool6 2 #[.nestMembers #[47, 59]] #[] 1537 66 #[] #[])
  fields := #[]
  methods := #[]
  instanceTypes := #[]
  staticTypes := #[]
  resolved := Array.replicate 131 none
  statics := none }

def pool7 : Array CpInfo := pool [(1, .class_ 2), (0, u "java/lang/constant/Constable"), (0, .class_ 4), (0, u "java/lang/Object")] 6

/-- java/lang/constant/Constable -/
def k7 : Class := { plain "java/lang/constant/Constable" (some 0) with
  accessFlags := 1537
  interfaces := #[]
  cf := some (fileOf pool7 1 #[] #[] 1537 3 #[] #[])
  fields := #[]
  methods := #[]
  instanceTypes := #[]
  staticTypes := #[]
  resolved := Array.replicate 11 none
  statics := none }

def pool8 : Array CpInfo := pool [(1, .class_ 2), (0, u "java/lang/constant/ConstantDesc"), (0, .class_ 4), (0, u "java/lang/Object")] 32

/-- java/lang/constant/ConstantDesc -/
def k8 : Class := { plain "java/lang/constant/ConstantDesc" (some 0) with
  accessFlags := 1537
  interfaces := #[]
  cf := some (fileOf pool8 1 #[] #[] 1537 3 #[] #[])
  fields := #[]
  methods := #[]
  instanceTypes := #[]
  staticTypes := #[]
  resolved := Array.replicate 37 none
  statics := none }

def pool9 : Array CpInfo := pool [(1, .methodref 2 3), (0, .class_ 4), (0, .nameAndType 5 6), (0, u "java/lang/Object"), (0, u "<init>"), (0, u "()V"), (2, .fieldref 10 11), (0, .class_ 12), (0, .nameAndType 13 14), (0, u "java/lang/String"), (0, u "value"), (0, u "[B"), (0, .fieldref 10 16), (0, .nameAndType 17 18), (0, u "coder"), (0, u "B"), (2, u "hash"), (0, u "I"), (2, u "hashIsZero"), (0, u "Z"), (0, .methodref 10 28), (0, .nameAndType 5 29), (0, u "([CIILjava/lang/Void;)V"), (8, .fieldref 10 39), (0, .nameAndType 40 26), (0, u "COMPACT_STRINGS"), (1, .class_ 44), (1, u "java/lang/StringUTF16"), (0, u "compress"), (1, .methodref 42 48), (0, .nameAndType 49 50), (0, u "coderFromArrayLen"), (0, u "([BI)B"), (126, .methodref 42 178), (0, .nameAndType 45 179), (0, u "([CII)[B"), (363, u "equals"), (29, u "(Ljava/lang/Object;)Z"), (1, .class_ 576), (0, u "java/lang/CharSequence"), (22, u "CASE_INSENSITIVE_ORDER"), (0, u "Ljava/util/Comparator;"), (409, u "([C)V"), (90, u "serialPersistentFields"), (0, u "[Ljava/io/ObjectStreamField;"), (0, .class_ 1104), (0, u "java/lang/String$CaseInsensitiveComparator"), (1, .class_ 1107), (0, u "java/io/Serializable"), (0, .class_ 1109), (0, u "java/lang/Comparable"), (0, .class_ 1111), (0, u "java/lang/constant/Constable"), (0, .class_ 1113), (0, u "java/lang/constant/ConstantDesc"), (2, u "serialVersionUID"), (0, u "J"), (3, u "REPL"), (0, u "C"), (2, u "LATIN1"), (1, u "UTF16")] 323

def k9m0 : Method := { name := "<init>", desc := "()V", sig := { parameters := [], returnType := none }, accessFlags := 1, code := none }
def k9c1 : Code := { maxStack := 5, maxLocals := 2, code := jdk_42_method_3_code, exceptionTable := #[], attributes := #[] }
def k9m1 : Method := { name := "<init>", desc := "([C)V", sig := { parameters := [(.array .char)], returnType := none }, accessFlags := 1, code := some k9c1 }
def k9c2 : Code := { maxStack := 2, maxLocals := 3, code := jdk_42_method_66_code, exceptionTable := #[], attributes := #[] }
def k9m2 : Method := { name := "equals", desc := "(Ljava/lang/Object;)Z", sig := { parameters := [(.object "java/lang/Object")], returnType := some .boolean }, accessFlags := 1, code := some k9c2 }
def k9c3 : Code := { maxStack := 4, maxLocals := 6, code := jdk_42_method_149_code, exceptionTable := #[], attributes := #[] }
def k9m3 : Method := { name := "<init>", desc := "([CIILjava/lang/Void;)V", sig := { parameters := [(.array .char), .int, .int, (.object "java/lang/Void")], returnType := none }, accessFlags := 2, code := some k9c3 }
/-- java/lang/String -/
def k9 : Class := { plain "java/lang/String" (some 0) with
  accessFlags := 49
  interfaces := #[4, 5, 6, 7, 8]
  cf := some (fileOf pool9 10 #[.nestMembers #[1103]] #[{ accessFlags := 1, nameIndex := 5, descriptorIndex := 6, attributes := #[] }, { accessFlags := 1, nameIndex := 5, descriptorIndex := 1010, attributes := #[] }, { accessFlags := 1, nameIndex := 543, descriptorIndex := 573, attributes := #[] }, { accessFlags := 2, nameIndex := 5, descriptorIndex := 29, attributes := #[] }] 49 2 #[1106, 1108, 575, 1110, 1112] #[{ accessFlags := 18, nameIndex := 13, descriptorIndex := 14, attributes := #[] }, { accessFlags := 18, nameIndex := 17, descriptorIndex := 18, attributes := #[] }, { accessFlags := 2, nameIndex := 21, descriptorIndex := 22, attributes := #[] }, { accessFlags := 2, nameIndex := 25, descriptorIndex := 26, attributes := #[] }, { accessFlags := 26, nameIndex := 1116, descriptorIndex := 1117, attributes := #[] }, { accessFlags := 24, nameIndex := 40, descriptorIndex := 26, attributes := #[] }, { accessFlags := 26, nameIndex := 1101, descriptorIndex := 1102, attributes := #[] }, { accessFlags := 26, nameIndex := 1121, descriptorIndex := 1122, attributes := #[] }, { accessFlags := 25, nameIndex := 599, descriptorIndex := 600, attributes := #[] }, { accessFlags := 24, nameIndex := 1125, descriptorIndex := 18, attributes := #[] }, { accessFlags := 24, nameIndex := 1127, descriptorIndex := 18, attributes := #[] }])
  fields := #[{ name := "value", type := (.array .byte), accessFlags := 18, slot := 0, constantValue := 0 }, { name := "coder", type := .byte, accessFlags := 18, slot := 1, constantValue := 0 }, { name := "hash", type := .int, accessFlags := 2, slot := 2, constantValue := 0 }, { name := "hashIsZero", type := .boolean, accessFlags := 2, slot := 3, constantValue := 0 }, { name := "serialVersionUID", type := .long, accessFlags := 26, slot := 0, constantValue := 0 }, { name := "COMPACT_STRINGS", type := .boolean, accessFlags := 24, slot := 1, constantValue := 0 }, { name := "serialPersistentFields", type := (.array (.object "java/io/ObjectStreamField")), accessFlags := 26, slot := 2, constantValue := 0 }, { name := "REPL", type := .char, accessFlags := 26, slot := 3, constantValue := 0 }, { name := "CASE_INSENSITIVE_ORDER", type := (.object "java/util/Comparator"), accessFlags := 25, slot := 4, constantValue := 0 }, { name := "LATIN1", type := .byte, accessFlags := 24, slot := 5, constantValue := 0 }, { name := "UTF16", type := .byte, accessFlags := 24, slot := 6, constantValue := 0 }]
  methods := #[k9m0, k9m1, k9m2, k9m3]
  instanceTypes := #[(.array .byte), .byte, .int, .boolean]
  staticTypes := #[.long, .boolean, (.array (.object "java/io/ObjectStreamField")), .char, (.object "java/util/Comparator"), .byte, .byte]
  resolved := Array.replicate 1451 none
  statics := some 0 }

def pool10 : Array CpInfo := pool [(6, .class_ 8), (1, u "java/lang/Object"), (0, u "<init>"), (0, u "()V"), (1, .class_ 14), (1, u "java/lang/StringUTF16"), (31, u "$assertionsDisabled"), (0, u "Z"), (13, u "HI_BYTE_SHIFT"), (0, u "I"), (2, u "LO_BYTE_SHIFT"), (49, .methodref 12 116), (0, .nameAndType 117 118), (0, u "compress"), (0, u "([CI[BII)I"), (3, u "([CII)[B"), (138, u "coderFromArrayLen"), (0, u "([BI)B"), (106, .class_ 371), (1, u "java/lang/StringUTF16$LinesSpliterator"), (58, u "MAX_LENGTH"), (196, .class_ 628), (0, u "java/lang/StringUTF16$CodePointsSpliterator"), (0, .class_ 630), (0, u "java/lang/StringUTF16$CharsSpliterator")] 4

def k10m0 : Method := { name := "<init>", desc := "()V", sig := { parameters := [], returnType := none }, accessFlags := 0, code := none }
def k10c1 : Code := { maxStack := 2, maxLocals := 2, code := jdk_52_method_15_code, exceptionTable := #[], attributes := #[] }
def k10m1 : Method := { name := "coderFromArrayLen", desc := "([BI)B", sig := { parameters := [(.array .byte), .int], returnType := some .byte }, accessFlags := 8, code := some k10c1 }
def k10c2 : Code := { maxStack := 5, maxLocals := 6, code := jdk_52_method_16_code, exceptionTable := #[], attributes := #[] }
def k10m2 : Method := { name := "compress", desc := "([CII)[B", sig := { parameters := [(.array .char), .int, .int], returnType := some (.array .byte) }, accessFlags := 9, code := some k10c2 }
def k10c3 : Code := { maxStack := 3, maxLocals := 7, code := jdk_52_method_21_code, exceptionTable := #[], attributes := #[] }
def k10m3 : Method := { name := "compress", desc := "([CI[BII)I", sig := { parameters := [(.array .char), .int, (.array .byte), .int, .int], returnType := some .int }, accessFlags := 9, code := some k10c3 }
/-- java/lang/StringUTF16 -/
def k10 : Class := { plain "java/lang/StringUTF16" (some 0) with
  accessFlags := 48
  interfaces := #[]
  cf := some (fileOf pool10 12 #[.nestMembers #[627, 629, 369]] #[{ accessFlags := 0, nameIndex := 9, descriptorIndex := 10, attributes := #[] }, { accessFlags := 8, nameIndex := 261, descriptorIndex := 262, attributes := #[] }, { accessFlags := 9, nameIndex := 117, descriptorIndex := 122, attributes := #[] }, { accessFlags := 9, nameIndex := 117, descriptorIndex := 118, attributes := #[] }] 48 6 #[] #[{ accessFlags := 26, nameIndex := 61, descriptorIndex := 62, attributes := #[] }, { accessFlags := 26, nameIndex := 65, descriptorIndex := 62, attributes := #[] }, { accessFlags := 24, nameIndex := 430, descriptorIndex := 62, attributes := #[] }, { accessFlags := 4120, nameIndex := 46, descriptorIndex := 47, attributes := #[] }])
  fields := #[{ name := "HI_BYTE_SHIFT", type := .int, accessFlags := 26, slot := 0, constantValue := 0 }, { name := "LO_BYTE_SHIFT", type := .int, accessFlags := 26, slot := 1, constantValue := 0 }, { name := "MAX_LENGTH", type := .int, accessFlags := 24, slot := 2, constantValue := 0 }, { name := "$assertionsDisabled", type := .boolean, accessFlags := 4120, slot := 3, constantValue := 0 }]
  methods := #[k10m0, k10m1, k10m2, k10m3]
  instanceTypes := #[]
  staticTypes := #[.int, .int, .int, .boolean]
  resolved := Array.replicate 635 none
  statics := none }

def pool11 : Array CpInfo := pool [(2, .class_ 4), (1, u "java/lang/Enum"), (0, u "name"), (0, u "Ljava/lang/String;"), (2, u "ordinal"), (0, u "I"), (1, .class_ 14), (1, u "java/lang/Object"), (4, u "hash"), (86, .class_ 108), (1, u "java/lang/Enum$EnumDesc"), (2, .class_ 112), (0, u "java/lang/constant/Constable"), (0, .class_ 114), (0, u "java/lang/Comparable"), (0, .class_ 116), (0, u "java/io/Serializable")] 87

/-- java/lang/Enum -/
def k11 : Class := { plain "java/lang/Enum" (some 0) with
  accessFlags := 1057
  interfaces := #[7, 5, 4]
  cf := some (fileOf pool11 2 #[.nestMembers #[106]] #[] 1057 12 #[111, 113, 115] #[{ accessFlags := 18, nameIndex := 5, descriptorIndex := 6, attributes := #[] }, { accessFlags := 18, nameIndex := 9, descriptorIndex := 10, attributes := #[] }, { accessFlags := 2, nameIndex := 19, descriptorIndex := 10, attributes := #[] }])
  fields := #[{ name := "name", type := (.object "java/lang/String"), accessFlags := 18, slot := 0, constantValue := 0 }, { name := "ordinal", type := .int, accessFlags := 18, slot := 1, constantValue := 0 }, { name := "hash", type := .int, accessFlags := 2, slot := 2, constantValue := 0 }]
  methods := #[]
  instanceTypes := #[(.object "java/lang/String"), .int, .int]
  staticTypes := #[]
  resolved := Array.replicate 204 none
  statics := none }

def pool12 : Array CpInfo := pool [(1, .class_ 2), (0, u "com/example/tarcal/tarcal/schedules/Basis"), (2, u "DAYS"), (0, u "Lcom/example/tarcal/tarcal/schedules/Basis;"), (2, u "ENERGY"), (2, u "ON_PEAK_ENERGY"), (2, u "OFF_PEAK_ENERGY"), (2, u "BILLING_DEMAND_DAYS"), (2, u "METERED_DEMAND_DAYS"), (2, u "FIXTURE_DAYS"), (2, u "HIGHEST_HOUR_ENERGY"), (2, u "GAS_INDEXED_ENERGY"), (2, u "POOL_PRICED_ENERGY"), (2, u "ISO_COSTS"), (2, u "DISTRIBUTION_ACCESS_CHARGES"), (2, u "$VALUES"), (0, u "[Lcom/example/tarcal/tarcal/schedules/Basis;"), (6, .class_ 52), (1, u "java/lang/Enum"), (8, u "keyword"), (0, u "Ljava/lang/String;"), (2, u "unit"), (2, u "onDemand"), (0, u "Z"), (2, u "byTimeOfUse")] 72

/-- com/example/tarcal/tarcal/schedules/Basis -/
def k12 : Class := { plain "com/example/tarcal/tarcal/schedules/Basis" (some 11) with
  accessFlags := 16433
  interfaces := #[]
  cf := some (fileOf pool12 1 #[] #[] 16433 50 #[] #[{ accessFlags := 16409, nameIndex := 5, descriptorIndex := 6, attributes := #[] }, { accessFlags := 16409, nameIndex := 9, descriptorIndex := 6, attributes := #[] }, { accessFlags := 16409, nameIndex := 12, descriptorIndex := 6, attributes := #[] }, { accessFlags := 16409, nameIndex := 15, descriptorIndex := 6, attributes := #[] }, { accessFlags := 16409, nameIndex := 18, descriptorIndex := 6, attributes := #[] }, { accessFlags := 16409, nameIndex := 21, descriptorIndex := 6, attributes := #[] }, { accessFlags := 16409, nameIndex := 24, descriptorIndex := 6, attributes := #[] }, { accessFlags := 16409, nameIndex := 27, descriptorIndex := 6, attributes := #[] }, { accessFlags := 16409, nameIndex := 30, descriptorIndex := 6, attributes := #[] }, { accessFlags := 16409, nameIndex := 33, descriptorIndex := 6, attributes := #[] }, { accessFlags := 16409, nameIndex := 36, descriptorIndex := 6, attributes := #[] }, { accessFlags := 16409, nameIndex := 39, descriptorIndex := 6, attributes := #[] }, { accessFlags := 18, nameIndex := 61, descriptorIndex := 62, attributes := #[] }, { accessFlags := 18, nameIndex := 65, descriptorIndex := 62, attributes := #[] }, { accessFlags := 18, nameIndex := 68, descriptorIndex := 69, attributes := #[] }, { accessFlags := 18, nameIndex := 72, descriptorIndex := 69, attributes := #[] }, { accessFlags := 4122, nameIndex := 42, descriptorIndex := 43, attributes := #[] }])
  fields := #[{ name := "DAYS", type := (.object "com/example/tarcal/tarcal/schedules/Basis"), accessFlags := 16409, slot := 0, constantValue := 0 }, { name := "ENERGY", type := (.object "com/example/tarcal/tarcal/schedules/Basis"), accessFlags := 16409, slot := 1, constantValue := 0 }, { name := "ON_PEAK_ENERGY", type := (.object "com/example/tarcal/tarcal/schedules/Basis"), accessFlags := 16409, slot := 2, constantValue := 0 }, { name := "OFF_PEAK_ENERGY", type := (.object "com/example/tarcal/tarcal/schedules/Basis"), accessFlags := 16409, slot := 3, constantValue := 0 }, { name := "BILLING_DEMAND_DAYS", type := (.object "com/example/tarcal/tarcal/schedules/Basis"), accessFlags := 16409, slot := 4, constantValue := 0 }, { name := "METERED_DEMAND_DAYS", type := (.object "com/example/tarcal/tarcal/schedules/Basis"), accessFlags := 16409, slot := 5, constantValue := 0 }, { name := "FIXTURE_DAYS", type := (.object "com/example/tarcal/tarcal/schedules/Basis"), accessFlags := 16409, slot := 6, constantValue := 0 }, { name := "HIGHEST_HOUR_ENERGY", type := (.object "com/example/tarcal/tarcal/schedules/Basis"), accessFlags := 16409, slot := 7, constantValue := 0 }, { name := "GAS_INDEXED_ENERGY", type := (.object "com/example/tarcal/tarcal/schedules/Basis"), accessFlags := 16409, slot := 8, constantValue := 0 }, { name := "POOL_PRICED_ENERGY", type := (.object "com/example/tarcal/tarcal/schedules/Basis"), accessFlags := 16409, slot := 9, constantValue := 0 }, { name := "ISO_COSTS", type := (.object "com/example/tarcal/tarcal/schedules/Basis"), accessFlags := 16409, slot := 10, constantValue := 0 }, { name := "DISTRIBUTION_ACCESS_CHARGES", type := (.object "com/example/tarcal/tarcal/schedules/Basis"), accessFlags := 16409, slot := 11, constantValue := 0 }, { name := "keyword", type := (.object "java/lang/String"), accessFlags := 18, slot := 3, constantValue := 0 }, { name := "unit", type := (.object "java/lang/String"), accessFlags := 18, slot := 4, constantValue := 0 }, { name := "onDemand", type := .boolean, accessFlags := 18, slot := 5, constantValue := 0 }, { name := "byTimeOfUse", type := .boolean, accessFlags := 18, slot := 6, constantValue := 0 }, { name := "$VALUES", type := (.array (.object "com/example/tarcal/tarcal/schedules/Basis")), accessFlags := 4122, slot := 12, constantValue := 0 }]
  methods := #[]
  instanceTypes := #[(.object "java/lang/String"), .int, .int, (.object "java/lang/String"), (.object "java/lang/String"), .boolean, .boolean]
  staticTypes := #[(.object "com/example/tarcal/tarcal/schedules/Basis"), (.object "com/example/tarcal/tarcal/schedules/Basis"), (.object "com/example/tarcal/tarcal/schedules/Basis"), (.object "com/example/tarcal/tarcal/schedules/Basis"), (.object "com/example/tarcal/tarcal/schedules/Basis"), (.object "com/example/tarcal/tarcal/schedules/Basis"), (.object "com/example/tarcal/tarcal/schedules/Basis"), (.object "com/example/tarcal/tarcal/schedules/Basis"), (.object "com/example/tarcal/tarcal/schedules/Basis"), (.object "com/example/tarcal/tarcal/schedules/Basis"), (.object "com/example/tarcal/tarcal/schedules/Basis"), (.object "com/example/tarcal/tarcal/schedules/Basis"), (.array (.object "com/example/tarcal/tarcal/schedules/Basis"))]
  resolved := Array.replicate 145 none
  statics := some 1 }

def pool13 : Array CpInfo := pool [(8, .class_ 10), (1, u "java/lang/Iterable"), (24, .class_ 36), (0, u "java/lang/Object")] 25

/-- java/lang/Iterable -/
def k13 : Class := { plain "java/lang/Iterable" (some 0) with
  accessFlags := 1537
  interfaces := #[]
  cf := some (fileOf pool13 8 #[] #[] 1537 35 #[] #[])
  fields := #[]
  methods := #[]
  instanceTypes := #[]
  staticTypes := #[]
  resolved := Array.replicate 62 none
  statics := none }

def pool14 : Array CpInfo := pool [(10, .class_ 12), (1, u "java/util/Collection"), (0, u "toArray"), (16, u "()Z"), (29, .class_ 61), (0, u "java/lang/Object"), (0, .class_ 63), (0, u "java/lang/Iterable"), (2, u "isEmpty"), (3, u "()[Ljava/lang/Object;")] 44

def k14m0 : Method := { name := "isEmpty", desc := "()Z", sig := { parameters := [], returnType := some .boolean }, accessFlags := 1025, code := none }
def k14m1 : Method := { name := "toArray", desc := "()[Ljava/lang/Object;", sig := { parameters := [], returnType := some (.array (.object "java/lang/Object")) }, accessFlags := 1025, code := none }
/-- java/util/Collection -/
def k14 : Class := { plain "java/util/Collection" (some 0) with
  accessFlags := 1537
  interfaces := #[13]
  cf := some (fileOf pool14 10 #[] #[{ accessFlags := 1025, nameIndex := 66, descriptorIndex := 30, attributes := #[] }, { accessFlags := 1025, nameIndex := 13, descriptorIndex := 70, attributes := #[] }] 1537 60 #[62] #[])
  fields := #[]
  methods := #[k14m0, k14m1]
  instanceTypes := #[]
  staticTypes := #[]
  resolved := Array.replicate 115 none
  statics := none }

def pool15 : Array CpInfo := pool [(1, .methodref 2 3), (0, .class_ 4), (0, .nameAndType 5 6), (0, u "java/lang/Object"), (0, u "<init>"), (0, u "()V"), (1, .class_ 10), (1, u "java/util/AbstractCollection"), (66, .class_ 78), (0, u "java/util/Collection")] 81

def k15c0 : Code := { maxStack := 1, maxLocals := 1, code := jdk_22_method_1_code, exceptionTable := #[], attributes := #[] }
def k15m0 : Method := { name := "<init>", desc := "()V", sig := { parameters := [], returnType := none }, accessFlags := 4, code := some k15c0 }
/-- java/util/AbstractCollection -/
def k15 : Class := { plain "java/util/AbstractCollection" (some 0) with
  accessFlags := 1057
  interfaces := #[14]
  cf := some (fileOf pool15 8 #[] #[{ accessFlags := 4, nameIndex := 5, descriptorIndex := 6, attributes := #[] }] 1057 2 #[77] #[])
  fields := #[]
  methods := #[k15m0]
  instanceTypes := #[]
  staticTypes := #[]
  resolved := Array.replicate 160 none
  statics := none }

def pool16 : Array CpInfo := pool [(8, .class_ 10), (1, u "java/util/SequencedCollection"), (15, .class_ 27), (0, u "java/lang/Object"), (0, .class_ 29), (0, u "java/util/Collection")] 27

/-- java/util/SequencedCollection -/
def k16 : Class := { plain "java/util/SequencedCollection" (some 0) with
  accessFlags := 1537
  interfaces := #[14]
  cf := some (fileOf pool16 8 #[] #[] 1537 26 #[28] #[])
  fields := #[]
  methods := #[]
  instanceTypes := #[]
  staticTypes := #[]
  resolved := Array.replicate 57 none
  statics := none }

def pool17 : Array CpInfo := pool [(8, .class_ 10), (1, u "java/util/List"), (20, u "(Ljava/lang/Object;)V"), (16, u "<init>"), (26, u "get"), (0, u "(I)Ljava/lang/Object;"), (2, u "size"), (0, u "()I"), (7, u "of"), (1, .fieldref 91 92), (0, .class_ 93), (0, .nameAndType 94 95), (0, u "java/util/ImmutableCollections"), (0, u "EMPTY_LIST"), (0, u "Ljava/util/ImmutableCollections$ListN;"), (0, .class_ 97), (0, u "java/util/ImmutableCollections$List12"), (0, .methodref 96 99), (0, .nameAndType 48 31), (0, .methodref 96 101), (0, .nameAndType 48 102), (0, u "(Ljava/lang/Object;Ljava/lang/Object;)V"), (0, .class_ 104), (0, u "java/lang/Object"), (3, u "([Ljava/lang/Object;)Ljava/util/List;"), (0, .methodref 91 110), (0, .nameAndType 111 108), (0, u "listFromArray"), (0, .methodref 91 113), (0, .nameAndType 114 115), (0, u "listCopy"), (0, u "(Ljava/util/Collection;)Ljava/util/List;"), (3, u "()Ljava/util/List;"), (0, .class_ 121), (0, u "java/util/SequencedCollection"), (112, u "copyOf")] 16

def k17m0 : Method := { name := "size", desc := "()I", sig := { parameters := [], returnType := some .int }, accessFlags := 1025, code := none }
def k17m1 : Method := { name := "get", desc := "(I)Ljava/lang/Object;", sig := { parameters := [.int], returnType := some (.object "java/lang/Object") }, accessFlags := 1025, code := none }
def k17c2 : Code := { maxStack := 1, maxLocals := 0, code := jdk_40_method_36_code, exceptionTable := #[], attributes := #[] }
def k17m2 : Method := { name := "of", desc := "()Ljava/util/List;", sig := { parameters := [], returnType := some (.object "java/util/List") }, accessFlags := 9, code := some k17c2 }
def k17c3 : Code := { maxStack := 5, maxLocals := 2, code := jdk_40_method_47_code, exceptionTable := #[], attributes := #[] }
def k17m3 : Method := { name := "of", desc := "([Ljava/lang/Object;)Ljava/util/List;", sig := { parameters := [(.array (.object "java/lang/Object"))], returnType := some (.object "java/util/List") }, accessFlags := 137, code := some k17c3 }
def k17c4 : Code := { maxStack := 1, maxLocals := 1, code := jdk_40_method_48_code, exceptionTable := #[], attributes := #[] }
def k17m4 : Method := { name := "copyOf", desc := "(Ljava/util/Collection;)Ljava/util/List;", sig := { parameters := [(.object "java/util/Collection")], returnType := some (.object "java/util/List") }, accessFlags := 9, code := some k17c4 }
/-- java/util/List -/
def k17 : Class := { plain "java/util/List" (some 0) with
  accessFlags := 1537
  interfaces := #[16]
  cf := some (fileOf pool17 8 #[] #[{ accessFlags := 1025, nameIndex := 79, descriptorIndex := 80, attributes := #[] }, { accessFlags := 1025, nameIndex := 75, descriptorIndex := 76, attributes := #[] }, { accessFlags := 9, nameIndex := 88, descriptorIndex := 119, attributes := #[] }, { accessFlags := 137, nameIndex := 88, descriptorIndex := 108, attributes := #[] }, { accessFlags := 9, nameIndex := 234, descriptorIndex := 115, attributes := #[] }] 1537 103 #[120] #[])
  fields := #[]
  methods := #[k17m0, k17m1, k17m2, k17m3, k17m4]
  instanceTypes := #[]
  staticTypes := #[]
  resolved := Array.replicate 251 none
  statics := none }

def pool18 : Array CpInfo := pool [(1, .methodref 2 3), (0, .class_ 4), (0, .nameAndType 5 6), (0, u "java/util/AbstractCollection"), (0, u "<init>"), (0, u "()V"), (0, .fieldref 8 9), (0, .class_ 10), (0, .nameAndType 11 12), (0, u "java/util/AbstractList"), (0, u "modCount"), (0, u "I"), (64, .class_ 78), (0, u "java/util/AbstractList$Itr"), (3, .class_ 83), (0, u "java/util/AbstractList$ListItr"), (9, .class_ 94), (0, u "java/util/AbstractList$RandomAccessSubList"), (3, .class_ 99), (0, u "java/util/AbstractList$SubList"), (33, .class_ 134), (0, u "java/util/List"), (73, .class_ 209), (0, u "java/util/AbstractList$SubList$1"), (0, .class_ 211), (0, u "java/util/AbstractList$RandomAccessSpliterator")] 6

def k18c0 : Code := { maxStack := 2, maxLocals := 1, code := jdk_39_method_1_code, exceptionTable := #[], attributes := #[] }
def k18m0 : Method := { name := "<init>", desc := "()V", sig := { parameters := [], returnType := none }, accessFlags := 4, code := some k18c0 }
/-- java/util/AbstractList -/
def k18 : Class := { plain "java/util/AbstractList" (some 15) with
  accessFlags := 1057
  interfaces := #[17]
  cf := some (fileOf pool18 8 #[.nestMembers #[93, 98, 208, 210, 82, 77]] #[{ accessFlags := 4, nameIndex := 5, descriptorIndex := 6, attributes := #[] }] 1057 2 #[133] #[{ accessFlags := 132, nameIndex := 11, descriptorIndex := 12, attributes := #[] }])
  fields := #[{ name := "modCount", type := .int, accessFlags := 132, slot := 0, constantValue := 0 }]
  methods := #[k18m0]
  instanceTypes := #[.int]
  staticTypes := #[]
  resolved := Array.replicate 218 none
  statics := none }

def pool19 : Array CpInfo := pool [(1, .class_ 2), (0, u "java/util/RandomAccess"), (0, .class_ 4), (0, u "java/lang/Object")] 2

/-- java/util/RandomAccess -/
def k19 : Class := { plain "java/util/RandomAccess" (some 0) with
  accessFlags := 1537
  interfaces := #[]
  cf := some (fileOf pool19 1 #[] #[] 1537 3 #[] #[])
  fields := #[]
  methods := #[]
  instanceTypes := #[]
  staticTypes := #[]
  resolved := Array.replicate 7 none
  statics := none }

def pool20 : Array CpInfo := pool [(1, .class_ 2), (0, u "java/lang/Cloneable"), (0, .class_ 4), (0, u "java/lang/Object")] 2

/-- java/lang/Cloneable -/
def k20 : Class := { plain "java/lang/Cloneable" (some 0) with
  accessFlags := 1537
  interfaces := #[]
  cf := some (fileOf pool20 1 #[] #[] 1537 3 #[] #[])
  fields := #[]
  methods := #[]
  instanceTypes := #[]
  staticTypes := #[]
  resolved := Array.replicate 7 none
  statics := none }

def pool21 : Array CpInfo := pool [(1, .methodref 2 3), (0, .class_ 4), (0, .nameAndType 5 6), (0, u "java/util/AbstractList"), (0, u "<init>"), (0, u "()V"), (0, .class_ 8), (0, u "java/lang/Object"), (0, .fieldref 10 11), (0, .class_ 12), (0, .nameAndType 13 14), (0, u "java/util/ArrayList"), (0, u "elementData"), (0, u "[Ljava/lang/Object;"), (2, u "EMPTY_ELEMENTDATA"), (21, .fieldref 10 40), (0, .nameAndType 41 14), (0, u "DEFAULTCAPACITY_EMPTY_ELEMENTDATA"), (4, u "toArray"), (0, u "()[Ljava/lang/Object;"), (0, .fieldref 10 49), (0, .nameAndType 50 51), (0, u "size"), (0, u "I"), (6, .class_ 60), (1, u "java/util/Arrays"), (0, u "copyOf"), (1, .fieldref 10 64), (0, .nameAndType 65 51), (0, u "modCount"), (0, .methodref 58 67), (0, .nameAndType 61 68), (0, u "([Ljava/lang/Object;I)[Ljava/lang/Object;"), (0, .methodref 10 70), (0, .nameAndType 71 72), (0, u "grow"), (0, u "(I)[Ljava/lang/Object;"), (6, .methodref 80 81), (0, .class_ 82), (0, .nameAndType 83 84), (0, u "java/lang/Math"), (0, u "max"), (0, u "(II)I"), (11, u "(Ljava/lang/Object;)Z"), (32, .methodref 10 130), (0, .nameAndType 71 47), (0, .methodref 10 132), (0, .nameAndType 133 134), (0, u "add"), (0, u "(Ljava/lang/Object;[Ljava/lang/Object;I)V"), (13, .class_ 149), (0, u "java/util/List"), (23, u "()Z"), (88, .class_ 263), (0, u "java/util/ArrayList$ListItr"), (3, .class_ 268), (0, u "java/util/ArrayList$Itr"), (7, .class_ 277), (0, u "java/util/ArrayList$SubList"), (12, .class_ 291), (0, u "java/util/ArrayList$ArrayListSpliterator"), (37, .class_ 330), (0, u "java/util/RandomAccess"), (0, .class_ 332), (0, u "java/lang/Cloneable"), (0, .class_ 334), (0, u "java/io/Serializable"), (0, u "serialVersionUID"), (0, u "J"), (3, u "DEFAULT_CAPACITY"), (22, u "isEmpty"), (136, .class_ 501), (0, u "java/util/ArrayList$SubList$2"), (0, .class_ 503), (0, u "java/util/ArrayList$SubList$1")] 5

def k21c0 : Code := { maxStack := 2, maxLocals := 1, code := jdk_38_method_2_code, exceptionTable := #[], attributes := #[] }
def k21m0 : Method := { name := "<init>", desc := "()V", sig := { parameters := [], returnType := none }, accessFlags := 1, code := some k21c0 }
def k21c1 : Code := { maxStack := 4, maxLocals := 4, code := jdk_38_method_6_code, exceptionTable := #[], attributes := #[] }
def k21m1 : Method := { name := "grow", desc := "(I)[Ljava/lang/Object;", sig := { parameters := [.int], returnType := some (.array (.object "java/lang/Object")) }, accessFlags := 2, code := some k21c1 }
def k21c2 : Code := { maxStack := 3, maxLocals := 1, code := jdk_38_method_7_code, exceptionTable := #[], attributes := #[] }
def k21m2 : Method := { name := "grow", desc := "()[Ljava/lang/Object;", sig := { parameters := [], returnType := some (.array (.object "java/lang/Object")) }, accessFlags := 2, code := some k21c2 }
def k21c3 : Code := { maxStack := 1, maxLocals := 1, code := jdk_38_method_9_code, exceptionTable := #[], attributes := #[] }
def k21m3 : Method := { name := "isEmpty", desc := "()Z", sig := { parameters := [], returnType := some .boolean }, accessFlags := 1, code := some k21c3 }
def k21c4 : Code := { maxStack := 2, maxLocals := 1, code := jdk_38_method_16_code, exceptionTable := #[], attributes := #[] }
def k21m4 : Method := { name := "toArray", desc := "()[Ljava/lang/Object;", sig := { parameters := [], returnType := some (.array (.object "java/lang/Object")) }, accessFlags := 1, code := some k21c4 }
def k21c5 : Code := { maxStack := 3, maxLocals := 4, code := jdk_38_method_24_code, exceptionTable := #[], attributes := #[] }
def k21m5 : Method := { name := "add", desc := "(Ljava/lang/Object;[Ljava/lang/Object;I)V", sig := { parameters := [(.object "java/lang/Object"), (.array (.object "java/lang/Object")), .int], returnType := none }, accessFlags := 2, code := some k21c5 }
def k21c6 : Code := { maxStack := 4, maxLocals := 2, code := jdk_38_method_25_code, exceptionTable := #[], attributes := #[] }
def k21m6 : Method := { name := "add", desc := "(Ljava/lang/Object;)Z", sig := { parameters := [(.object "java/lang/Object")], returnType := some .boolean }, accessFlags := 1, code := some k21c6 }
/-- java/util/ArrayList -/
def k21 : Class := { plain "java/util/ArrayList" (some 18) with
  accessFlags := 33
  interfaces := #[17, 19, 20, 4]
  cf := some (fileOf pool21 10 #[.nestMembers #[290, 276, 500, 502, 262, 267]] #[{ accessFlags := 1, nameIndex := 5, descriptorIndex := 6, attributes := #[] }, { accessFlags := 2, nameIndex := 71, descriptorIndex := 72, attributes := #[] }, { accessFlags := 2, nameIndex := 71, descriptorIndex := 47, attributes := #[] }, { accessFlags := 1, nameIndex := 363, descriptorIndex := 173, attributes := #[] }, { accessFlags := 1, nameIndex := 46, descriptorIndex := 47, attributes := #[] }, { accessFlags := 2, nameIndex := 133, descriptorIndex := 134, attributes := #[] }, { accessFlags := 1, nameIndex := 133, descriptorIndex := 96, attributes := #[] }] 33 2 #[148, 329, 331, 333] #[{ accessFlags := 26, nameIndex := 335, descriptorIndex := 336, attributes := #[] }, { accessFlags := 26, nameIndex := 340, descriptorIndex := 51, attributes := #[] }, { accessFlags := 26, nameIndex := 17, descriptorIndex := 14, attributes := #[] }, { accessFlags := 26, nameIndex := 41, descriptorIndex := 14, attributes := #[] }, { accessFlags := 128, nameIndex := 13, descriptorIndex := 14, attributes := #[] }, { accessFlags := 2, nameIndex := 50, descriptorIndex := 51, attributes := #[] }])
  fields := #[{ name := "serialVersionUID", type := .long, accessFlags := 26, slot := 0, constantValue := 0 }, { name := "DEFAULT_CAPACITY", type := .int, accessFlags := 26, slot := 1, constantValue := 0 }, { name := "EMPTY_ELEMENTDATA", type := (.array (.object "java/lang/Object")), accessFlags := 26, slot := 2, constantValue := 0 }, { name := "DEFAULTCAPACITY_EMPTY_ELEMENTDATA", type := (.array (.object "java/lang/Object")), accessFlags := 26, slot := 3, constantValue := 0 }, { name := "elementData", type := (.array (.object "java/lang/Object")), accessFlags := 128, slot := 1, constantValue := 0 }, { name := "size", type := .int, accessFlags := 2, slot := 2, constantValue := 0 }]
  methods := #[k21m0, k21m1, k21m2, k21m3, k21m4, k21m5, k21m6]
  instanceTypes := #[.int, (.array (.object "java/lang/Object")), .int]
  staticTypes := #[.long, .int, (.array (.object "java/lang/Object")), (.array (.object "java/lang/Object"))]
  resolved := Array.replicate 509 none
  statics := some 2 }

def pool22 : Array CpInfo := pool [(1, .class_ 2), (0, u "java/lang/Math"), (1, .class_ 6), (1, u "java/lang/Object"), (0, u "<init>"), (0, u "()V"), (89, .class_ 100), (1, u "java/lang/Math$RandomNumberGeneratorHolder"), (71, u "negativeZeroFloatBits"), (0, u "J"), (2, u "negativeZeroDoubleBits"), (21, u "max"), (2, u "min"), (43, u "$assertionsDisabled"), (0, u "Z"), (88, u "(II)I"), (2, u "twoToTheDoubleScaleDown"), (0, u "D"), (4, u "twoToTheDoubleScaleUp"), (9, u "E"), (3, u "PI"), (2, u "TAU"), (2, u "DEGREES_TO_RADIANS"), (0, u "RADIANS_TO_DEGREES")] 94

def k22m0 : Method := { name := "<init>", desc := "()V", sig := { parameters := [], returnType := none }, accessFlags := 2, code := none }
def k22c1 : Code := { maxStack := 2, maxLocals := 2, code := jdk_29_method_65_code, exceptionTable := #[], attributes := #[] }
def k22m1 : Method := { name := "max", desc := "(II)I", sig := { parameters := [.int, .int], returnType := some .int }, accessFlags := 9, code := some k22c1 }
def k22c2 : Code := { maxStack := 2, maxLocals := 2, code := jdk_29_method_69_code, exceptionTable := #[], attributes := #[] }
def k22m2 : Method := { name := "min", desc := "(II)I", sig := { parameters := [.int, .int], returnType := some .int }, accessFlags := 9, code := some k22c2 }
/-- java/lang/Math -/
def k22 : Class := { plain "java/lang/Math" (some 0) with
  accessFlags := 49
  interfaces := #[]
  cf := some (fileOf pool22 1 #[.nestMembers #[98]] #[{ accessFlags := 2, nameIndex := 7, descriptorIndex := 8, attributes := #[] }, { accessFlags := 9, nameIndex := 198, descriptorIndex := 335, attributes := #[] }, { accessFlags := 9, nameIndex := 201, descriptorIndex := 335, attributes := #[] }] 49 4 #[] #[{ accessFlags := 25, nameIndex := 354, descriptorIndex := 339, attributes := #[] }, { accessFlags := 25, nameIndex := 358, descriptorIndex := 339, attributes := #[] }, { accessFlags := 25, nameIndex := 361, descriptorIndex := 339, attributes := #[] }, { accessFlags := 26, nameIndex := 364, descriptorIndex := 339, attributes := #[] }, { accessFlags := 26, nameIndex := 365, descriptorIndex := 339, attributes := #[] }, { accessFlags := 26, nameIndex := 172, descriptorIndex := 173, attributes := #[] }, { accessFlags := 26, nameIndex := 176, descriptorIndex := 173, attributes := #[] }, { accessFlags := 8, nameIndex := 344, descriptorIndex := 339, attributes := #[] }, { accessFlags := 8, nameIndex := 338, descriptorIndex := 339, attributes := #[] }, { accessFlags := 4120, nameIndex := 245, descriptorIndex := 246, attributes := #[] }])
  fields := #[{ name := "E", type := .double, accessFlags := 25, slot := 0, constantValue := 0 }, { name := "PI", type := .double, accessFlags := 25, slot := 1, constantValue := 0 }, { name := "TAU", type := .double, accessFlags := 25, slot := 2, constantValue := 0 }, { name := "DEGREES_TO_RADIANS", type := .double, accessFlags := 26, slot := 3, constantValue := 0 }, { name := "RADIANS_TO_DEGREES", type := .double, accessFlags := 26, slot := 4, constantValue := 0 }, { name := "negativeZeroFloatBits", type := .long, accessFlags := 26, slot := 5, constantValue := 0 }, { name := "negativeZeroDoubleBits", type := .long, accessFlags := 26, slot := 6, constantValue := 0 }, { name := "twoToTheDoubleScaleUp", type := .double, accessFlags := 8, slot := 7, constantValue := 0 }, { name := "twoToTheDoubleScaleDown", type := .double, accessFlags := 8, slot := 8, constantValue := 0 }, { name := "$assertionsDisabled", type := .boolean, accessFlags := 4120, slot := 9, constantValue := 0 }]
  methods := #[k22m0, k22m1, k22m2]
  instanceTypes := #[]
  staticTypes := #[.double, .double, .double, .double, .double, .long, .long, .double, .double, .boolean]
  resolved := Array.replicate 460 none
  statics := none }

def pool23 : Array CpInfo := pool [(1, .methodref 2 3), (0, .class_ 4), (0, .nameAndType 5 6), (0, u "java/lang/Record"), (0, u "<init>"), (0, u "()V"), (0, .interfaceMethodref 8 9), (0, .class_ 10), (0, .nameAndType 11 12), (0, u "java/util/List"), (0, u "copyOf"), (0, u "(Ljava/util/Collection;)Ljava/util/List;"), (0, .fieldref 14 15), (0, .class_ 16), (0, .nameAndType 17 18), (0, u "com/example/tarcal/tarcal/schedules/Charge"), (0, u "id"), (0, u "Ljava/lang/String;"), (0, .fieldref 14 20), (0, .nameAndType 21 18), (0, u "name"), (0, .fieldref 14 23), (0, .nameAndType 24 25), (0, u "basis"), (0, u "Lcom/example/tarcal/tarcal/schedules/Basis;"), (0, .fieldref 14 27), (0, .nameAndType 28 29), (0, u "onlyFor"), (0, u "Ljava/util/Optional;"), (0, .fieldref 14 31), (0, .nameAndType 32 29), (0, u "chargeFor"), (0, .fieldref 14 34), (0, .nameAndType 35 36), (0, u "prices"), (0, u "Ljava/util/List;"), (0, .methodref 14 38), (0, .nameAndType 5 39), (0, u "(Ljava/lang/String;Ljava/lang/String;Lcom/example/tarcal/tarcal/schedules/Basis;Ljava/util/Optional;Ljava/util/Optional;Ljava/util/List;)V"), (52, u "()Ljava/util/Optional;"), (43, u "withPrices"), (0, u "(Ljava/util/List;)Lcom/example/tarcal/tarcal/schedules/Charge;"), (8, u "()Ljava/lang/String;"), (2, u "()Lcom/example/tarcal/tarcal/schedules/Basis;"), (2, u "()Ljava/util/List;")] 62

def k23c0 : Code := { maxStack := 2, maxLocals := 7, code := prog_22_method_1_code, exceptionTable := #[], attributes := #[] }
def k23m0 : Method := { name := "<init>", desc := "(Ljava/lang/String;Ljava/lang/String;Lcom/example/tarcal/tarcal/schedules/Basis;Ljava/util/Optional;Ljava/util/Optional;Ljava/util/List;)V", sig := { parameters := [(.object "java/lang/String"), (.object "java/lang/String"), (.object "com/example/tarcal/tarcal/schedules/Basis"), (.object "java/util/Optional"), (.object "java/util/Optional"), (.object "java/util/List")], returnType := none }, accessFlags := 1, code := some k23c0 }
def k23c1 : Code := { maxStack := 8, maxLocals := 2, code := prog_22_method_2_code, exceptionTable := #[], attributes := #[] }
def k23m1 : Method := { name := "withPrices", desc := "(Ljava/util/List;)Lcom/example/tarcal/tarcal/schedules/Charge;", sig := { parameters := [(.object "java/util/List")], returnType := some (.object "com/example/tarcal/tarcal/schedules/Charge") }, accessFlags := 1, code := some k23c1 }
def k23c2 : Code := { maxStack := 1, maxLocals := 1, code := prog_22_method_9_code, exceptionTable := #[], attributes := #[] }
def k23m2 : Method := { name := "id", desc := "()Ljava/lang/String;", sig := { parameters := [], returnType := some (.object "java/lang/String") }, accessFlags := 1, code := some k23c2 }
def k23c3 : Code := { maxStack := 1, maxLocals := 1, code := prog_22_method_10_code, exceptionTable := #[], attributes := #[] }
def k23m3 : Method := { name := "name", desc := "()Ljava/lang/String;", sig := { parameters := [], returnType := some (.object "java/lang/String") }, accessFlags := 1, code := some k23c3 }
def k23c4 : Code := { maxStack := 1, maxLocals := 1, code := prog_22_method_11_code, exceptionTable := #[], attributes := #[] }
def k23m4 : Method := { name := "basis", desc := "()Lcom/example/tarcal/tarcal/schedules/Basis;", sig := { parameters := [], returnType := some (.object "com/example/tarcal/tarcal/schedules/Basis") }, accessFlags := 1, code := some k23c4 }
def k23c5 : Code := { maxStack := 1, maxLocals := 1, code := prog_22_method_12_code, exceptionTable := #[], attributes := #[] }
def k23m5 : Method := { name := "onlyFor", desc := "()Ljava/util/Optional;", sig := { parameters := [], returnType := some (.object "java/util/Optional") }, accessFlags := 1, code := some k23c5 }
def k23c6 : Code := { maxStack := 1, maxLocals := 1, code := prog_22_method_13_code, exceptionTable := #[], attributes := #[] }
def k23m6 : Method := { name := "chargeFor", desc := "()Ljava/util/Optional;", sig := { parameters := [], returnType := some (.object "java/util/Optional") }, accessFlags := 1, code := some k23c6 }
def k23c7 : Code := { maxStack := 1, maxLocals := 1, code := prog_22_method_14_code, exceptionTable := #[], attributes := #[] }
def k23m7 : Method := { name := "prices", desc := "()Ljava/util/List;", sig := { parameters := [], returnType := some (.object "java/util/List") }, accessFlags := 1, code := some k23c7 }
/-- com/example/tarcal/tarcal/schedules/Charge -/
def k23 : Class := { plain "com/example/tarcal/tarcal/schedules/Charge" (some 2) with
  accessFlags := 49
  interfaces := #[]
  cf := some (fileOf pool23 14 #[] #[{ accessFlags := 1, nameIndex := 5, descriptorIndex := 39, attributes := #[] }, { accessFlags := 1, nameIndex := 136, descriptorIndex := 137, attributes := #[] }, { accessFlags := 1, nameIndex := 17, descriptorIndex := 146, attributes := #[] }, { accessFlags := 1, nameIndex := 21, descriptorIndex := 146, attributes := #[] }, { accessFlags := 1, nameIndex := 24, descriptorIndex := 149, attributes := #[] }, { accessFlags := 1, nameIndex := 28, descriptorIndex := 92, attributes := #[] }, { accessFlags := 1, nameIndex := 32, descriptorIndex := 92, attributes := #[] }, { accessFlags := 1, nameIndex := 35, descriptorIndex := 152, attributes := #[] }] 49 2 #[] #[{ accessFlags := 18, nameIndex := 17, descriptorIndex := 18, attributes := #[] }, { accessFlags := 18, nameIndex := 21, descriptorIndex := 18, attributes := #[] }, { accessFlags := 18, nameIndex := 24, descriptorIndex := 25, attributes := #[] }, { accessFlags := 18, nameIndex := 28, descriptorIndex := 29, attributes := #[] }, { accessFlags := 18, nameIndex := 32, descriptorIndex := 29, attributes := #[] }, { accessFlags := 18, nameIndex := 35, descriptorIndex := 36, attributes := #[] }])
  fields := #[{ name := "id", type := (.object "java/lang/String"), accessFlags := 18, slot := 0, constantValue := 0 }, { name := "name", type := (.object "java/lang/String"), accessFlags := 18, slot := 1, constantValue := 0 }, { name := "basis", type := (.object "com/example/tarcal/tarcal/schedules/Basis"), accessFlags := 18, slot := 2, constantValue := 0 }, { name := "onlyFor", type := (.object "java/util/Optional"), accessFlags := 18, slot := 3, constantValue := 0 }, { name := "chargeFor", type := (.object "java/util/Optional"), accessFlags := 18, slot := 4, constantValue := 0 }, { name := "prices", type := (.object "java/util/List"), accessFlags := 18, slot := 5, constantValue := 0 }]
  methods := #[k23m0, k23m1, k23m2, k23m3, k23m4, k23m5, k23m6, k23m7]
  instanceTypes := #[(.object "java/lang/String"), (.object "java/lang/String"), (.object "com/example/tarcal/tarcal/schedules/Basis"), (.object "java/util/Optional"), (.object "java/util/Optional"), (.object "java/util/List")]
  staticTypes := #[]
  resolved := Array.replicate 215 none
  statics := none }

def pool24 : Array CpInfo := pool [(2, .class_ 4), (1, u "java/lang/Object"), (0, u "<init>"), (0, u "()V"), (3, .class_ 11), (0, u "java/util/ImmutableCollections$List12"), (0, .class_ 13), (0, u "java/util/ImmutableCollections$ListN"), (3, u "Z"), (0, .class_ 19), (0, u "java/util/List"), (0, .interfaceMethodref 21 22), (0, .class_ 23), (0, .nameAndType 24 25), (0, u "java/util/Collection"), (0, u "isEmpty"), (0, u "()Z"), (0, .interfaceMethodref 18 27), (0, .nameAndType 28 29), (0, u "of"), (0, u "()Ljava/util/List;"), (0, .interfaceMethodref 21 31), (0, .nameAndType 32 33), (0, u "toArray"), (0, u "()[Ljava/lang/Object;"), (0, .interfaceMethodref 18 35), (0, .nameAndType 28 36), (0, u "([Ljava/lang/Object;)Ljava/util/List;"), (0, .methodref 38 39), (0, .class_ 40), (0, .nameAndType 41 42), (0, u "java/util/Objects"), (0, u "requireNonNull"), (0, u "(Ljava/lang/Object;)Ljava/lang/Object;"), (0, .methodref 12 44), (0, .nameAndType 5 45), (0, u "([Ljava/lang/Object;Z)V"), (1, .class_ 49), (1, u "java/util/ImmutableCollections"), (0, u "$assertionsDisabled"), (5, u "[Ljava/lang/Object;"), (5, u "EMPTY_LIST"), (0, u "Ljava/util/ImmutableCollections$ListN;"), (8, u "EMPTY_LIST_NULLS"), (22, u "SALT32L"), (0, u "J"), (2, u "REVERSE"), (6, u "archivedObjects"), (2, u "EMPTY"), (0, u "Ljava/lang/Object;"), (0, .class_ 112), (0, u "java/util/ImmutableCollections$SetN"), (5, u "EMPTY_SET"), (0, u "Ljava/util/ImmutableCollections$SetN;"), (0, .class_ 121), (0, u "java/util/ImmutableCollections$MapN"), (3, u "EMPTY_MAP"), (0, u "Ljava/util/ImmutableCollections$MapN;"), (4, u "EXPAND_FACTOR"), (0, u "I"), (9, u "listCopy"), (0, u "(Ljava/util/Collection;)Ljava/util/List;"), (7, u "listFromArray"), (17, .class_ 170), (0, u "java/util/ImmutableCollections$MapN$MapNIterator"), (0, .class_ 172), (0, u "java/util/ImmutableCollections$MapN$1"), (0, .class_ 174), (0, u "java/util/ImmutableCollections$Map1"), (0, .class_ 176), (0, u "java/util/ImmutableCollections$AbstractImmutableMap"), (0, .class_ 178), (0, u "java/util/ImmutableCollections$SetN$SetNIterator"), (0, .class_ 180), (0, u "java/util/ImmutableCollections$Set12"), (0, .class_ 182), (0, u "java/util/ImmutableCollections$Set12$1"), (0, .class_ 184), (0, u "java/util/ImmutableCollections$AbstractImmutableSet"), (0, .class_ 186), (0, u "java/util/ImmutableCollections$SubList"), (0, .class_ 188), (0, u "java/util/ImmutableCollections$ListItr"), (0, .class_ 190), (0, u "java/util/ImmutableCollections$AbstractImmutableList"), (0, .class_ 192), (0, u "java/util/ImmutableCollections$AbstractImmutableCollection"), (0, .class_ 194), (0, u "java/util/ImmutableCollections$Access"), (0, .class_ 196), (0, u "java/util/ImmutableCollections$Access$1")] 16

def k24m0 : Method := { name := "<init>", desc := "()V", sig := { parameters := [], returnType := none }, accessFlags := 2, code := none }
def k24c1 : Code := { maxStack := 1, maxLocals := 2, code := jdk_56_method_3_code, exceptionTable := #[], attributes := #[] }
def k24m1 : Method := { name := "listCopy", desc := "(Ljava/util/Collection;)Ljava/util/List;", sig := { parameters := [(.object "java/util/Collection")], returnType := some (.object "java/util/List") }, accessFlags := 8, code := some k24c1 }
def k24c2 : Code := { maxStack := 4, maxLocals := 3, code := jdk_56_method_4_code, exceptionTable := #[], attributes := #[] }
def k24m2 : Method := { name := "listFromArray", desc := "([Ljava/lang/Object;)Ljava/util/List;", sig := { parameters := [(.array (.object "java/lang/Object"))], returnType := some (.object "java/util/List") }, accessFlags := 136, code := some k24c2 }
/-- java/util/ImmutableCollections -/
def k24 : Class := { plain "java/util/ImmutableCollections" (some 0) with
  accessFlags := 32
  interfaces := #[]
  cf := some (fileOf pool24 47 #[.nestMembers #[120, 169, 171, 173, 175, 111, 177, 179, 181, 183, 12, 10, 185, 187, 189, 191, 193, 195]] #[{ accessFlags := 2, nameIndex := 5, descriptorIndex := 6, attributes := #[] }, { accessFlags := 8, nameIndex := 142, descriptorIndex := 143, attributes := #[] }, { accessFlags := 136, nameIndex := 151, descriptorIndex := 36, attributes := #[] }] 32 2 #[] #[{ accessFlags := 26, nameIndex := 95, descriptorIndex := 96, attributes := #[] }, { accessFlags := 26, nameIndex := 99, descriptorIndex := 17, attributes := #[] }, { accessFlags := 10, nameIndex := 106, descriptorIndex := 56, attributes := #[] }, { accessFlags := 26, nameIndex := 109, descriptorIndex := 110, attributes := #[] }, { accessFlags := 24, nameIndex := 62, descriptorIndex := 63, attributes := #[] }, { accessFlags := 24, nameIndex := 72, descriptorIndex := 63, attributes := #[] }, { accessFlags := 24, nameIndex := 118, descriptorIndex := 119, attributes := #[] }, { accessFlags := 24, nameIndex := 125, descriptorIndex := 126, attributes := #[] }, { accessFlags := 24, nameIndex := 131, descriptorIndex := 132, attributes := #[] }, { accessFlags := 4120, nameIndex := 50, descriptorIndex := 17, attributes := #[] }])
  fields := #[{ name := "SALT32L", type := .long, accessFlags := 26, slot := 0, constantValue := 0 }, { name := "REVERSE", type := .boolean, accessFlags := 26, slot := 1, constantValue := 0 }, { name := "archivedObjects", type := (.array (.object "java/lang/Object")), accessFlags := 10, slot := 2, constantValue := 0 }, { name := "EMPTY", type := (.object "java/lang/Object"), accessFlags := 26, slot := 3, constantValue := 0 }, { name := "EMPTY_LIST", type := (.object "java/util/ImmutableCollections$ListN"), accessFlags := 24, slot := 4, constantValue := 0 }, { name := "EMPTY_LIST_NULLS", type := (.object "java/util/ImmutableCollections$ListN"), accessFlags := 24, slot := 5, constantValue := 0 }, { name := "EMPTY_SET", type := (.object "java/util/ImmutableCollections$SetN"), accessFlags := 24, slot := 6, constantValue := 0 }, { name := "EMPTY_MAP", type := (.object "java/util/ImmutableCollections$MapN"), accessFlags := 24, slot := 7, constantValue := 0 }, { name := "EXPAND_FACTOR", type := .int, accessFlags := 24, slot := 8, constantValue := 0 }, { name := "$assertionsDisabled", type := .boolean, accessFlags := 4120, slot := 9, constantValue := 0 }]
  methods := #[k24m0, k24m1, k24m2]
  instanceTypes := #[]
  staticTypes := #[.long, .boolean, (.array (.object "java/lang/Object")), (.object "java/lang/Object"), (.object "java/util/ImmutableCollections$ListN"), (.object "java/util/ImmutableCollections$ListN"), (.object "java/util/ImmutableCollections$SetN"), (.object "java/util/ImmutableCollections$MapN"), .int, .boolean]
  resolved := Array.replicate 213 none
  statics := some 3 }

def pool25 : Array CpInfo := pool [(1, .methodref 2 3), (0, .class_ 4), (0, .nameAndType 5 6), (0, u "java/util/AbstractCollection"), (0, u "<init>"), (0, u "()V"), (1, .class_ 10), (1, u "java/util/ImmutableCollections"), (2, .class_ 14), (0, u "java/util/ImmutableCollections$AbstractImmutableCollection")] 41

def k25c0 : Code := { maxStack := 1, maxLocals := 1, code := jdk_47_method_1_code, exceptionTable := #[], attributes := #[] }
def k25m0 : Method := { name := "<init>", desc := "()V", sig := { parameters := [], returnType := none }, accessFlags := 0, code := some k25c0 }
/-- java/util/ImmutableCollections$AbstractImmutableCollection -/
def k25 : Class := { plain "java/util/ImmutableCollections$AbstractImmutableCollection" (some 15) with
  accessFlags := 1056
  interfaces := #[]
  cf := some (fileOf pool25 13 #[.nestHost 8] #[{ accessFlags := 0, nameIndex := 5, descriptorIndex := 6, attributes := #[] }] 1056 2 #[] #[])
  fields := #[]
  methods := #[k25m0]
  instanceTypes := #[]
  staticTypes := #[]
  resolved := Array.replicate 56 none
  statics := none }

def pool26 : Array CpInfo := pool [(1, .methodref 2 3), (0, .class_ 4), (0, .nameAndType 5 6), (0, u "java/util/ImmutableCollections$AbstractImmutableCollection"), (0, u "<init>"), (0, u "()V"), (1, .class_ 10), (1, u "java/util/ImmutableCollections"), (3, .class_ 16), (1, u "java/util/ImmutableCollections$AbstractImmutableList"), (60, .class_ 78), (0, u "java/util/List"), (45, .class_ 125), (0, u "java/util/RandomAccess")] 70

def k26c0 : Code := { maxStack := 1, maxLocals := 1, code := jdk_46_method_1_code, exceptionTable := #[], attributes := #[] }
def k26m0 : Method := { name := "<init>", desc := "()V", sig := { parameters := [], returnType := none }, accessFlags := 0, code := some k26c0 }
/-- java/util/ImmutableCollections$AbstractImmutableList -/
def k26 : Class := { plain "java/util/ImmutableCollections$AbstractImmutableList" (some 25) with
  accessFlags := 1056
  interfaces := #[17, 19]
  cf := some (fileOf pool26 14 #[.nestHost 8] #[{ accessFlags := 0, nameIndex := 5, descriptorIndex := 6, attributes := #[] }] 1056 2 #[77, 124] #[])
  fields := #[]
  methods := #[k26m0]
  instanceTypes := #[]
  staticTypes := #[]
  resolved := Array.replicate 196 none
  statics := none }

def pool27 : Array CpInfo := pool [(1, .methodref 2 3), (0, .class_ 4), (0, .nameAndType 5 6), (0, u "java/util/ImmutableCollections$AbstractImmutableList"), (0, u "<init>"), (0, u "()V"), (0, .methodref 8 9), (0, .class_ 10), (0, .nameAndType 11 12), (0, u "java/util/Objects"), (0, u "requireNonNull"), (0, u "(Ljava/lang/Object;)Ljava/lang/Object;"), (0, .fieldref 14 15), (0, .class_ 16), (0, .nameAndType 17 18), (0, u "java/util/ImmutableCollections$List12"), (0, u "e0"), (0, u "Ljava/lang/Object;"), (0, .fieldref 20 21), (0, .class_ 22), (0, .nameAndType 23 18), (0, u "java/util/ImmutableCollections"), (0, u "EMPTY"), (0, .fieldref 14 25), (0, .nameAndType 26 18), (0, u "e1"), (24, u "size"), (0, u "()I"), (17, .class_ 71), (0, u "java/io/Serializable"), (4, u "(Ljava/lang/Object;)V"), (8, u "(Ljava/lang/Object;Ljava/lang/Object;)V"), (4, u "get"), (0, u "(I)Ljava/lang/Object;")] 33

def k27c0 : Code := { maxStack := 2, maxLocals := 2, code := jdk_44_method_1_code, exceptionTable := #[], attributes := #[] }
def k27m0 : Method := { name := "<init>", desc := "(Ljava/lang/Object;)V", sig := { parameters := [(.object "java/lang/Object")], returnType := none }, accessFlags := 0, code := some k27c0 }
def k27c1 : Code := { maxStack := 2, maxLocals := 3, code := jdk_44_method_2_code, exceptionTable := #[], attributes := #[] }
def k27m1 : Method := { name := "<init>", desc := "(Ljava/lang/Object;Ljava/lang/Object;)V", sig := { parameters := [(.object "java/lang/Object"), (.object "java/lang/Object")], returnType := none }, accessFlags := 0, code := some k27c1 }
def k27c2 : Code := { maxStack := 2, maxLocals := 1, code := jdk_44_method_3_code, exceptionTable := #[], attributes := #[] }
def k27m2 : Method := { name := "size", desc := "()I", sig := { parameters := [], returnType := some .int }, accessFlags := 1, code := some k27c2 }
def k27c3 : Code := { maxStack := 2, maxLocals := 2, code := jdk_44_method_5_code, exceptionTable := #[], attributes := #[] }
def k27m3 : Method := { name := "get", desc := "(I)Ljava/lang/Object;", sig := { parameters := [.int], returnType := some (.object "java/lang/Object") }, accessFlags := 1, code := some k27c3 }
/-- java/util/ImmutableCollections$List12 -/
def k27 : Class := { plain "java/util/ImmutableCollections$List12" (some 26) with
  accessFlags := 48
  interfaces := #[4]
  cf := some (fileOf pool27 14 #[.nestHost 20] #[{ accessFlags := 0, nameIndex := 5, descriptorIndex := 76, attributes := #[] }, { accessFlags := 0, nameIndex := 5, descriptorIndex := 85, attributes := #[] }, { accessFlags := 1, nameIndex := 51, descriptorIndex := 52, attributes := #[] }, { accessFlags := 1, nameIndex := 90, descriptorIndex := 91, attributes := #[] }] 48 2 #[70] #[{ accessFlags := 18, nameIndex := 17, descriptorIndex := 18, attributes := #[] }, { accessFlags := 18, nameIndex := 26, descriptorIndex := 18, attributes := #[] }])
  fields := #[{ name := "e0", type := (.object "java/lang/Object"), accessFlags := 18, slot := 0, constantValue := 0 }, { name := "e1", type := (.object "java/lang/Object"), accessFlags := 18, slot := 1, constantValue := 0 }]
  methods := #[k27m0, k27m1, k27m2, k27m3]
  instanceTypes := #[(.object "java/lang/Object"), (.object "java/lang/Object")]
  staticTypes := #[]
  resolved := Array.replicate 125 none
  statics := none }

def pool28 : Array CpInfo := pool [(1, .methodref 2 3), (0, .class_ 4), (0, .nameAndType 5 6), (0, u "java/util/ImmutableCollections$AbstractImmutableList"), (0, u "<init>"), (0, u "()V"), (0, .fieldref 8 9), (0, .class_ 10), (0, .nameAndType 11 12), (0, u "java/util/ImmutableCollections$ListN"), (0, u "elements"), (0, u "[Ljava/lang/Object;"), (0, .fieldref 8 14), (0, .nameAndType 15 16), (0, u "allowNulls"), (0, u "Z"), (42, .class_ 60), (0, u "java/io/Serializable"), (4, u "([Ljava/lang/Object;Z)V"), (11, u "size"), (0, u "()I"), (0, u "get"), (0, u "(I)Ljava/lang/Object;"), (33, .class_ 115), (0, u "java/util/ImmutableCollections")] 3

def k28c0 : Code := { maxStack := 2, maxLocals := 3, code := jdk_45_method_1_code, exceptionTable := #[], attributes := #[] }
def k28m0 : Method := { name := "<init>", desc := "([Ljava/lang/Object;Z)V", sig := { parameters := [(.array (.object "java/lang/Object")), .boolean], returnType := none }, accessFlags := 2, code := some k28c0 }
def k28c1 : Code := { maxStack := 1, maxLocals := 1, code := jdk_45_method_3_code, exceptionTable := #[], attributes := #[] }
def k28m1 : Method := { name := "size", desc := "()I", sig := { parameters := [], returnType := some .int }, accessFlags := 1, code := some k28c1 }
def k28c2 : Code := { maxStack := 2, maxLocals := 2, code := jdk_45_method_4_code, exceptionTable := #[], attributes := #[] }
def k28m2 : Method := { name := "get", desc := "(I)Ljava/lang/Object;", sig := { parameters := [.int], returnType := some (.object "java/lang/Object") }, accessFlags := 1, code := some k28c2 }
/-- java/util/ImmutableCollections$ListN -/
def k28 : Class := { plain "java/util/ImmutableCollections$ListN" (some 26) with
  accessFlags := 48
  interfaces := #[4]
  cf := some (fileOf pool28 8 #[.nestHost 114] #[{ accessFlags := 2, nameIndex := 5, descriptorIndex := 65, attributes := #[] }, { accessFlags := 1, nameIndex := 77, descriptorIndex := 78, attributes := #[] }, { accessFlags := 1, nameIndex := 79, descriptorIndex := 80, attributes := #[] }] 48 2 #[59] #[{ accessFlags := 18, nameIndex := 11, descriptorIndex := 12, attributes := #[] }, { accessFlags := 18, nameIndex := 15, descriptorIndex := 16, attributes := #[] }])
  fields := #[{ name := "elements", type := (.array (.object "java/lang/Object")), accessFlags := 18, slot := 0, constantValue := 0 }, { name := "allowNulls", type := .boolean, accessFlags := 18, slot := 1, constantValue := 0 }]
  methods := #[k28m0, k28m1, k28m2]
  instanceTypes := #[(.array (.object "java/lang/Object")), .boolean]
  staticTypes := #[]
  resolved := Array.replicate 119 none
  statics := none }

def pool29 : Array CpInfo := pool [(2, .class_ 4), (1, u "java/lang/Object"), (0, u "<init>"), (0, u "()V"), (7, .class_ 16), (1, u "java/util/Arrays"), (57, .class_ 76), (1, u "java/util/Arrays$NaturalOrder"), (9, .methodref 2 87), (0, .nameAndType 88 89), (0, u "getClass"), (0, u "()Ljava/lang/Class;"), (20, .class_ 111), (0, u "[Ljava/lang/Object;"), (1, .class_ 115), (1, u "java/util/Arrays$LegacyMergeSort"), (1, u "Z"), (32, .methodref 151 152), (0, .class_ 153), (0, .nameAndType 154 155), (0, u "java/lang/System"), (0, u "arraycopy"), (0, u "(Ljava/lang/Object;ILjava/lang/Object;II)V"), (144, .methodref 14 301), (0, .nameAndType 302 303), (0, u "copyOf"), (0, u "([Ljava/lang/Object;ILjava/lang/Class;)[Ljava/lang/Object;"), (0, .methodref 305 306), (0, .class_ 307), (0, .nameAndType 308 309), (0, u "java/lang/Math"), (0, u "min"), (0, u "(II)I"), (65, .class_ 376), (0, u "java/util/Arrays$ArrayList"), (68, u "$assertionsDisabled"), (269, u "MIN_ARRAY_SORT_GRAN"), (0, u "I"), (2, u "INSERTIONSORT_THRESHOLD"), (140, u "([Ljava/lang/Object;I)[Ljava/lang/Object;"), (114, .class_ 976), (0, u "java/util/Arrays$ArrayItr")] 52

def k29m0 : Method := { name := "<init>", desc := "()V", sig := { parameters := [], returnType := none }, accessFlags := 2, code := none }
def k29c1 : Code := { maxStack := 3, maxLocals := 2, code := jdk_65_method_119_code, exceptionTable := #[], attributes := #[] }
def k29m1 : Method := { name := "copyOf", desc := "([Ljava/lang/Object;I)[Ljava/lang/Object;", sig := { parameters := [(.array (.object "java/lang/Object")), .int], returnType := some (.array (.object "java/lang/Object")) }, accessFlags := 9, code := some k29c1 }
def k29c2 : Code := { maxStack := 6, maxLocals := 4, code := jdk_65_method_120_code, exceptionTable := #[], attributes := #[] }
def k29m2 : Method := { name := "copyOf", desc := "([Ljava/lang/Object;ILjava/lang/Class;)[Ljava/lang/Object;", sig := { parameters := [(.array (.object "java/lang/Object")), .int, (.object "java/lang/Class")], returnType := some (.array (.object "java/lang/Object")) }, accessFlags := 9, code := some k29c2 }
/-- java/util/Arrays -/
def k29 : Class := { plain "java/util/Arrays" (some 0) with
  accessFlags := 49
  interfaces := #[]
  cf := some (fileOf pool29 14 #[.nestMembers #[975, 375, 113, 74]] #[{ accessFlags := 2, nameIndex := 5, descriptorIndex := 6, attributes := #[] }, { accessFlags := 9, nameIndex := 302, descriptorIndex := 860, attributes := #[] }, { accessFlags := 9, nameIndex := 302, descriptorIndex := 303, attributes := #[] }] 49 2 #[] #[{ accessFlags := 26, nameIndex := 715, descriptorIndex := 716, attributes := #[] }, { accessFlags := 26, nameIndex := 719, descriptorIndex := 716, attributes := #[] }, { accessFlags := 4120, nameIndex := 445, descriptorIndex := 117, attributes := #[] }])
  fields := #[{ name := "MIN_ARRAY_SORT_GRAN", type := .int, accessFlags := 26, slot := 0, constantValue := 0 }, { name := "INSERTIONSORT_THRESHOLD", type := .int, accessFlags := 26, slot := 1, constantValue := 0 }, { name := "$assertionsDisabled", type := .boolean, accessFlags := 4120, slot := 2, constantValue := 0 }]
  methods := #[k29m0, k29m1, k29m2]
  instanceTypes := #[]
  staticTypes := #[.int, .int, .boolean]
  resolved := Array.replicate 1029 none
  statics := none }

def pool30 : Array CpInfo := pool [(2, .class_ 4), (1, u "java/lang/Object"), (0, u "<init>"), (0, u "()V"), (1, .class_ 10), (1, u "java/lang/System"), (0, u "allowSecurityManager"), (0, u "I"), (16, u "cons"), (0, u "Ljava/io/Console;"), (77, .class_ 110), (1, u "java/lang/System$CallersHolder"), (43, u "initialErrStream"), (0, u "Ljava/io/PrintStream;"), (19, u "security"), (0, u "Ljava/lang/SecurityManager;"), (31, .class_ 209), (0, u "java/lang/System$1"), (7, u "props"), (0, u "Ljava/util/Properties;"), (2, u "lineSeparator"), (0, u "Ljava/lang/String;"), (96, .class_ 321), (1, u "java/lang/System$LoggerFinder"), (5, .class_ 328), (0, u "java/lang/System$Logger"), (67, u "err"), (2, u "out"), (91, u "notSupportedJnuEncoding"), (15, u "in"), (17, u "initialIn"), (0, u "Ljava/io/InputStream;"), (35, u "bootLayer"), (0, u "Ljava/lang/ModuleLayer;"), (99, .class_ 664), (0, u "java/lang/System$2"), (9, u "NEVER"), (2, u "MAYBE"), (49, u "arraycopy"), (0, u "(Ljava/lang/Object;ILjava/lang/Object;II)V"), (72, .class_ 802), (0, u "java/lang/System$Logger$Level")] 31

def k30m0 : Method := { name := "<init>", desc := "()V", sig := { parameters := [], returnType := none }, accessFlags := 2, code := none }
def k30m1 : Method := { name := "arraycopy", desc := "(Ljava/lang/Object;ILjava/lang/Object;II)V", sig := { parameters := [(.object "java/lang/Object"), .int, (.object "java/lang/Object"), .int, .int], returnType := none }, accessFlags := 265, code := none }
/-- java/lang/System -/
def k30 : Class := { plain "java/lang/System" (some 0) with
  accessFlags := 49
  interfaces := #[]
  cf := some (fileOf pool30 8 #[.nestMembers #[319, 327, 801, 108, 663, 208]] #[{ accessFlags := 2, nameIndex := 5, descriptorIndex := 6, attributes := #[] }, { accessFlags := 265, nameIndex := 727, descriptorIndex := 728, attributes := #[] }] 49 2 #[] #[{ accessFlags := 25, nameIndex := 507, descriptorIndex := 526, attributes := #[] }, { accessFlags := 25, nameIndex := 399, descriptorIndex := 155, attributes := #[] }, { accessFlags := 25, nameIndex := 396, descriptorIndex := 155, attributes := #[] }, { accessFlags := 10, nameIndex := 525, descriptorIndex := 526, attributes := #[] }, { accessFlags := 26, nameIndex := 674, descriptorIndex := 12, attributes := #[] }, { accessFlags := 26, nameIndex := 677, descriptorIndex := 12, attributes := #[] }, { accessFlags := 10, nameIndex := 11, descriptorIndex := 12, attributes := #[] }, { accessFlags := 74, nameIndex := 175, descriptorIndex := 176, attributes := #[] }, { accessFlags := 10, nameIndex := 491, descriptorIndex := 222, attributes := #[] }, { accessFlags := 74, nameIndex := 29, descriptorIndex := 30, attributes := #[] }, { accessFlags := 74, nameIndex := 154, descriptorIndex := 155, attributes := #[] }, { accessFlags := 10, nameIndex := 217, descriptorIndex := 218, attributes := #[] }, { accessFlags := 10, nameIndex := 221, descriptorIndex := 222, attributes := #[] }, { accessFlags := 8, nameIndex := 562, descriptorIndex := 563, attributes := #[] }])
  fields := #[{ name := "in", type := (.object "java/io/InputStream"), accessFlags := 25, slot := 0, constantValue := 0 }, { name := "out", type := (.object "java/io/PrintStream"), accessFlags := 25, slot := 1, constantValue := 0 }, { name := "err", type := (.object "java/io/PrintStream"), accessFlags := 25, slot := 2, constantValue := 0 }, { name := "initialIn", type := (.object "java/io/InputStream"), accessFlags := 10, slot := 3, constantValue := 0 }, { name := "NEVER", type := .int, accessFlags := 26, slot := 4, constantValue := 0 }, { name := "MAYBE", type := .int, accessFlags := 26, slot := 5, constantValue := 0 }, { name := "allowSecurityManager", type := .int, accessFlags := 10, slot := 6, constantValue := 0 }, { name := "security", type := (.object "java/lang/SecurityManager"), accessFlags := 74, slot := 7, constantValue := 0 }, { name := "notSupportedJnuEncoding", type := (.object "java/lang/String"), accessFlags := 10, slot := 8, constantValue := 0 }, { name := "cons", type := (.object "java/io/Console"), accessFlags := 74, slot := 9, constantValue := 0 }, { name := "initialErrStream", type := (.object "java/io/PrintStream"), accessFlags := 74, slot := 10, constantValue := 0 }, { name := "props", type := (.object "java/util/Properties"), accessFlags := 10, slot := 11, constantValue := 0 }, { name := "lineSeparator", type := (.object "java/lang/String"), accessFlags := 10, slot := 12, constantValue := 0 }, { name := "bootLayer", type := (.object "java/lang/ModuleLayer"), accessFlags := 8, slot := 13, constantValue := 0 }]
  methods := #[k30m0, k30m1]
  instanceTypes := #[]
  staticTypes := #[(.object "java/io/InputStream"), (.object "java/io/PrintStream"), (.object "java/io/PrintStream"), (.object "java/io/InputStream"), .int, .int, .int, (.object "java/lang/SecurityManager"), (.object "java/lang/String"), (.object "java/io/Console"), (.object "java/io/PrintStream"), (.object "java/util/Properties"), (.object "java/lang/String"), (.object "java/lang/ModuleLayer")]
  resolved := Array.replicate 834 none
  statics := none }

def pool31 : Array CpInfo := pool [(2, .class_ 4), (1, u "java/lang/Object"), (0, u "<init>"), (0, u "()V"), (35, .class_ 44), (1, u "java/util/Objects"), (0, u "requireNonNull"), (0, u "(Ljava/lang/Object;)Ljava/lang/Object;")] 137

def k31m0 : Method := { name := "<init>", desc := "()V", sig := { parameters := [], returnType := none }, accessFlags := 2, code := none }
def k31c1 : Code := { maxStack := 2, maxLocals := 1, code := jdk_31_method_10_code, exceptionTable := #[], attributes := #[] }
def k31m1 : Method := { name := "requireNonNull", desc := "(Ljava/lang/Object;)Ljava/lang/Object;", sig := { parameters := [(.object "java/lang/Object")], returnType := some (.object "java/lang/Object") }, accessFlags := 9, code := some k31c1 }
/-- java/util/Objects -/
def k31 : Class := { plain "java/util/Objects" (some 0) with
  accessFlags := 49
  interfaces := #[]
  cf := some (fileOf pool31 42 #[] #[{ accessFlags := 2, nameIndex := 5, descriptorIndex := 6, attributes := #[] }, { accessFlags := 9, nameIndex := 45, descriptorIndex := 46, attributes := #[] }] 49 2 #[] #[])
  fields := #[]
  methods := #[k31m0, k31m1]
  instanceTypes := #[]
  staticTypes := #[]
  resolved := Array.replicate 184 none
  statics := none }

def pool32 : Array CpInfo := pool [(4, .class_ 6), (1, u "java/lang/Object"), (0, u "<init>"), (0, u "()V"), (5, .class_ 16), (1, u "java/lang/StringLatin1"), (104, u "$assertionsDisabled"), (0, u "Z"), (98, .class_ 223), (1, u "java/lang/StringLatin1$LinesSpliterator"), (166, .class_ 391), (0, u "java/lang/StringLatin1$CharsSpliterator")] 3

def k32m0 : Method := { name := "<init>", desc := "()V", sig := { parameters := [], returnType := none }, accessFlags := 0, code := none }
/-- java/lang/StringLatin1 -/
def k32 : Class := { plain "java/lang/StringLatin1" (some 0) with
  accessFlags := 48
  interfaces := #[]
  cf := some (fileOf pool32 14 #[.nestMembers #[390, 221]] #[{ accessFlags := 0, nameIndex := 7, descriptorIndex := 8, attributes := #[] }] 48 4 #[] #[{ accessFlags := 4120, nameIndex := 121, descriptorIndex := 122, attributes := #[] }])
  fields := #[{ name := "$assertionsDisabled", type := .boolean, accessFlags := 4120, slot := 0, constantValue := 0 }]
  methods := #[k32m0]
  instanceTypes := #[]
  staticTypes := #[.boolean]
  resolved := Array.replicate 395 none
  statics := none }

def pool33 : Array CpInfo := pool [(2, .class_ 4), (1, u "java/lang/Object"), (0, u "<init>"), (0, u "()V"), (17, .class_ 26), (1, u "jdk/internal/util/Preconditions"), (28, .class_ 56), (0, u "jdk/internal/util/Preconditions$4"), (57, .class_ 115), (0, u "jdk/internal/util/Preconditions$1"), (7, u "SIOOBE_FORMATTER"), (0, u "Ljava/util/function/BiFunction;"), (0, .class_ 126), (0, u "jdk/internal/util/Preconditions$2"), (3, u "AIOOBE_FORMATTER"), (0, .class_ 132), (0, u "jdk/internal/util/Preconditions$3"), (3, u "IOOBE_FORMATTER")] 57

def k33m0 : Method := { name := "<init>", desc := "()V", sig := { parameters := [], returnType := none }, accessFlags := 1, code := none }
/-- jdk/internal/util/Preconditions -/
def k33 : Class := { plain "jdk/internal/util/Preconditions" (some 0) with
  accessFlags := 33
  interfaces := #[]
  cf := some (fileOf pool33 24 #[.nestMembers #[55, 131, 125, 114]] #[{ accessFlags := 1, nameIndex := 5, descriptorIndex := 6, attributes := #[] }] 33 2 #[] #[{ accessFlags := 25, nameIndex := 123, descriptorIndex := 124, attributes := #[] }, { accessFlags := 25, nameIndex := 130, descriptorIndex := 124, attributes := #[] }, { accessFlags := 25, nameIndex := 136, descriptorIndex := 124, attributes := #[] }])
  fields := #[{ name := "SIOOBE_FORMATTER", type := (.object "java/util/function/BiFunction"), accessFlags := 25, slot := 0, constantValue := 0 }, { name := "AIOOBE_FORMATTER", type := (.object "java/util/function/BiFunction"), accessFlags := 25, slot := 1, constantValue := 0 }, { name := "IOOBE_FORMATTER", type := (.object "java/util/function/BiFunction"), accessFlags := 25, slot := 2, constantValue := 0 }]
  methods := #[k33m0]
  instanceTypes := #[]
  staticTypes := #[(.object "java/util/function/BiFunction"), (.object "java/util/function/BiFunction"), (.object "java/util/function/BiFunction")]
  resolved := Array.replicate 194 none
  statics := some 4 }

def pool34 : Array CpInfo := pool [(9, u "<init>"), (6, .class_ 18), (1, u "java/lang/Object"), (0, u "()V"), (1, .class_ 23), (1, u "jdk/internal/util/ArraysSupport"), (0, u "LOG2_ARRAY_LONG_INDEX_SCALE"), (0, u "I"), (2, u "U"), (0, u "Ljdk/internal/misc/Unsafe;"), (8, u "BIG_ENDIAN"), (0, u "Z"), (8, u "LOG2_BYTE_BIT_SIZE"), (4, u "LOG2_ARRAY_INT_INDEX_SCALE"), (54, u "JLA"), (0, u "Ljdk/internal/access/JavaLangAccess;"), (11, u "LOG2_ARRAY_BOOLEAN_INDEX_SCALE"), (9, u "LOG2_ARRAY_BYTE_INDEX_SCALE"), (5, u "LOG2_ARRAY_CHAR_INDEX_SCALE"), (5, u "LOG2_ARRAY_SHORT_INDEX_SCALE"), (18, u "LOG2_ARRAY_FLOAT_INDEX_SCALE"), (24, u "LOG2_ARRAY_DOUBLE_INDEX_SCALE"), (89, u "T_BOOLEAN"), (2, u "T_CHAR"), (1, u "T_FLOAT"), (1, u "T_DOUBLE"), (1, u "T_BYTE"), (1, u "T_SHORT"), (1, u "T_INT"), (1, u "T_LONG"), (1, u "SOFT_MAX_ARRAY_LENGTH")] 83

def k34m0 : Method := { name := "<init>", desc := "()V", sig := { parameters := [], returnType := none }, accessFlags := 2, code := none }
/-- jdk/internal/util/ArraysSupport -/
def k34 : Class := { plain "jdk/internal/util/ArraysSupport" (some 0) with
  accessFlags := 33
  interfaces := #[]
  cf := some (fileOf pool34 21 #[] #[{ accessFlags := 2, nameIndex := 9, descriptorIndex := 19, attributes := #[] }] 33 16 #[] #[{ accessFlags := 24, nameIndex := 28, descriptorIndex := 29, attributes := #[] }, { accessFlags := 26, nameIndex := 38, descriptorIndex := 39, attributes := #[] }, { accessFlags := 25, nameIndex := 121, descriptorIndex := 25, attributes := #[] }, { accessFlags := 25, nameIndex := 131, descriptorIndex := 25, attributes := #[] }, { accessFlags := 25, nameIndex := 137, descriptorIndex := 25, attributes := #[] }, { accessFlags := 25, nameIndex := 143, descriptorIndex := 25, attributes := #[] }, { accessFlags := 25, nameIndex := 53, descriptorIndex := 25, attributes := #[] }, { accessFlags := 25, nameIndex := 24, descriptorIndex := 25, attributes := #[] }, { accessFlags := 25, nameIndex := 162, descriptorIndex := 25, attributes := #[] }, { accessFlags := 25, nameIndex := 187, descriptorIndex := 25, attributes := #[] }, { accessFlags := 26, nameIndex := 48, descriptorIndex := 25, attributes := #[] }, { accessFlags := 25, nameIndex := 277, descriptorIndex := 25, attributes := #[] }, { accessFlags := 25, nameIndex := 280, descriptorIndex := 25, attributes := #[] }, { accessFlags := 25, nameIndex := 282, descriptorIndex := 25, attributes := #[] }, { accessFlags := 25, nameIndex := 284, descriptorIndex := 25, attributes := #[] }, { accessFlags := 25, nameIndex := 286, descriptorIndex := 25, attributes := #[] }, { accessFlags := 25, nameIndex := 288, descriptorIndex := 25, attributes := #[] }, { accessFlags := 25, nameIndex := 290, descriptorIndex := 25, attributes := #[] }, { accessFlags := 25, nameIndex := 292, descriptorIndex := 25, attributes := #[] }, { accessFlags := 26, nameIndex := 108, descriptorIndex := 109, attributes := #[] }, { accessFlags := 25, nameIndex := 294, descriptorIndex := 25, attributes := #[] }])
  fields := #[{ name := "U", type := (.object "jdk/internal/misc/Unsafe"), accessFlags := 24, slot := 0, constantValue := 0 }, { name := "BIG_ENDIAN", type := .boolean, accessFlags := 26, slot := 1, constantValue := 0 }, { name := "LOG2_ARRAY_BOOLEAN_INDEX_SCALE", type := .int, accessFlags := 25, slot := 2, constantValue := 0 }, { name := "LOG2_ARRAY_BYTE_INDEX_SCALE", type := .int, accessFlags := 25, slot := 3, constantValue := 0 }, { name := "LOG2_ARRAY_CHAR_INDEX_SCALE", type := .int, accessFlags := 25, slot := 4, constantValue := 0 }, { name := "LOG2_ARRAY_SHORT_INDEX_SCALE", type := .int, accessFlags := 25, slot := 5, constantValue := 0 }, { name := "LOG2_ARRAY_INT_INDEX_SCALE", type := .int, accessFlags := 25, slot := 6, constantValue := 0 }, { name := "LOG2_ARRAY_LONG_INDEX_SCALE", type := .int, accessFlags := 25, slot := 7, constantValue := 0 }, { name := "LOG2_ARRAY_FLOAT_INDEX_SCALE", type := .int, accessFlags := 25, slot := 8, constantValue := 0 }, { name := "LOG2_ARRAY_DOUBLE_INDEX_SCALE", type := .int, accessFlags := 25, slot := 9, constantValue := 0 }, { name := "LOG2_BYTE_BIT_SIZE", type := .int, accessFlags := 26, slot := 10, constantValue := 0 }, { name := "T_BOOLEAN", type := .int, accessFlags := 25, slot := 11, constantValue := 0 }, { name := "T_CHAR", type := .int, accessFlags := 25, slot := 12, constantValue := 0 }, { name := "T_FLOAT", type := .int, accessFlags := 25, slot := 13, constantValue := 0 }, { name := "T_DOUBLE", type := .int, accessFlags := 25, slot := 14, constantValue := 0 }, { name := "T_BYTE", type := .int, accessFlags := 25, slot := 15, constantValue := 0 }, { name := "T_SHORT", type := .int, accessFlags := 25, slot := 16, constantValue := 0 }, { name := "T_INT", type := .int, accessFlags := 25, slot := 17, constantValue := 0 }, { name := "T_LONG", type := .int, accessFlags := 25, slot := 18, constantValue := 0 }, { name := "JLA", type := (.object "jdk/internal/access/JavaLangAccess"), accessFlags := 26, slot := 19, constantValue := 0 }, { name := "SOFT_MAX_ARRAY_LENGTH", type := .int, accessFlags := 25, slot := 20, constantValue := 0 }]
  methods := #[k34m0]
  instanceTypes := #[]
  staticTypes := #[(.object "jdk/internal/misc/Unsafe"), .boolean, .int, .int, .int, .int, .int, .int, .int, .int, .int, .int, .int, .int, .int, .int, .int, .int, .int, (.object "jdk/internal/access/JavaLangAccess"), .int]
  resolved := Array.replicate 378 none
  statics := none }

def pool35 : Array CpInfo := pool [(1, u "java/lang/Class"), (0, .class_ 1), (0, u "java/lang/Object"), (0, .class_ 3)] 0

/-- java/lang/Class -/
def k35 : Class := { plain "java/lang/Class" (some 0) with
  accessFlags := 49
  interfaces := #[]
  cf := some (fileOf pool35 2 #[] #[] 49 4 #[] #[])
  fields := #[]
  methods := #[]
  instanceTypes := #[]
  staticTypes := #[]
  resolved := Array.replicate 5 none
  statics := none }

/-- the primitive byte -/
def k36 : Class := { plain "byte" none with kind := .primitive 'B', accessFlags := 0x411 }
/-- [B -/
def k37 : Class := { plain "[B" (some 0) with kind := .array 36 .byte, interfaces := #[20, 4], accessFlags := 1041 }

/-- the primitive char -/
def k38 : Class := { plain "char" none with kind := .primitive 'C', accessFlags := 0x411 }
/-- [C -/
def k39 : Class := { plain "[C" (some 0) with kind := .array 38 .char, interfaces := #[20, 4], accessFlags := 1041 }

/-- the primitive int -/
def k40 : Class := { plain "int" none with kind := .primitive 'I', accessFlags := 0x411 }
/-- [I -/
def k41 : Class := { plain "[I" (some 0) with kind := .array 40 .int, interfaces := #[20, 4], accessFlags := 1041 }

/-- [Lcom/example/tarcal/tarcal/schedules/Basis; -/
def k42 : Class := { plain "[Lcom/example/tarcal/tarcal/schedules/Basis;" (some 0) with kind := .array 12 (.object "com/example/tarcal/tarcal/schedules/Basis"), interfaces := #[20, 4], accessFlags := 1041 }

/-- [Ljava/lang/Object; -/
def k43 : Class := { plain "[Ljava/lang/Object;" (some 0) with kind := .array 0 (.object "java/lang/Object"), interfaces := #[20, 4], accessFlags := 1041, mirror := some 5 }

def heap : Heap := #[{ cls := 9, slots := #[.long 0, .int 1, .null, .int 0, .null, .int 0, .int 0], vm := .statics 9 },
  { cls := 12, slots := #[.ref 7, .ref 8, .ref 9, .ref 10, .ref 11, .ref 12, .ref 13, .ref 14, .ref 15, .ref 16, .ref 17, .ref 18, .null], vm := .statics 12 },
  { cls := 21, slots := #[.long 0, .int 0, .ref 21, .ref 22], vm := .statics 21 },
  { cls := 24, slots := #[.long 0, .int 0, .null, .ref 19, .ref 20, .null, .null, .null, .int 0, .int 1], vm := .statics 24 },
  { cls := 33, slots := #[.null, .null, .null], vm := .statics 33 },
  { cls := 35, slots := #[], vm := .mirror 43 },
  { cls := 43, slots := #[], vm := .none },
  { cls := 12, slots := #[.null, .int 0, .int 0, .null, .null, .int 0, .int 0], vm := .none },
  { cls := 12, slots := #[.null, .int 0, .int 0, .null, .null, .int 0, .int 0], vm := .none },
  { cls := 12, slots := #[.null, .int 0, .int 0, .null, .null, .int 0, .int 0], vm := .none },
  { cls := 12, slots := #[.null, .int 0, .int 0, .null, .null, .int 0, .int 0], vm := .none },
  { cls := 12, slots := #[.null, .int 0, .int 0, .null, .null, .int 0, .int 0], vm := .none },
  { cls := 12, slots := #[.null, .int 0, .int 0, .null, .null, .int 0, .int 0], vm := .none },
  { cls := 12, slots := #[.null, .int 0, .int 0, .null, .null, .int 0, .int 0], vm := .none },
  { cls := 12, slots := #[.null, .int 0, .int 0, .null, .null, .int 0, .int 0], vm := .none },
  { cls := 12, slots := #[.null, .int 0, .int 0, .null, .null, .int 0, .int 0], vm := .none },
  { cls := 12, slots := #[.null, .int 0, .int 0, .null, .null, .int 0, .int 0], vm := .none },
  { cls := 12, slots := #[.null, .int 0, .int 0, .null, .null, .int 0, .int 0], vm := .none },
  { cls := 12, slots := #[.null, .int 0, .int 0, .null, .null, .int 0, .int 0], vm := .none },
  { cls := 0, slots := #[], vm := .none },
  { cls := 28, slots := #[.ref 6, .int 0], vm := .none },
  { cls := 43, slots := #[], vm := .none },
  { cls := 43, slots := #[], vm := .none }]
def classes : Array Class := #[k0, k1, k2, k3, k4, k5, k6, k7, k8, k9, k10, k11, k12, k13, k14, k15, k16, k17, k18, k19, k20, k21, k22, k23, k24, k25, k26, k27, k28, k29, k30, k31, k32, k33, k34, k35, k36, k37, k38, k39, k40, k41, k42, k43]
def interned : List (Array UInt16 × Addr) := []
def slotsUsed : Nat := 123
def theMethod : MethodId := ⟨1, 4⟩
def args0 : Array Value := #[.int 16961, .int 17475, .int 5, .int 6, .int 7]
def aboutOver (below : List Frame) : State where
  vm := { classes := classes, interned := interned.toArray }
  heap := heap
  slotsUsed := slotsUsed
  threads := #[{ frames := .invoking theMethod args0 :: below }]
def below0 : List Frame := [.native { method := ⟨0, 0⟩, args := #[] }]
def about1 : State := aboutOver below0
def p0 : Program := .bare "" "" ""
def e0 : Env := launch0.env 0 0 0
theorem w_frames : about1.frames = Frame.invoking theMethod args0 :: below0 := rfl
set_option maxRecDepth 65536 in
theorem w_args : argsFit about1.vm theMethod args0 = true := by decide +kernel
set_option maxRecDepth 65536 in
theorem w_heap : heapFits about1 = true := by decide +kernel
set_option maxRecDepth 65536 in
theorem w_runnable : about1.curStatus? = some .runnable := by decide +kernel
set_option maxRecDepth 65536 in
theorem w_alone : about1.alone = true := by decide +kernel
set_option maxRecDepth 65536 in
theorem w_named : about1.methodNamed? x = some theMethod := by decide +kernel
set_option maxRecDepth 65536 in
theorem w_hears : about1.hears theMethod below0 = true := by decide +kernel
set_option maxRecDepth 65536 in
theorem w_ripe : about1.ripe theMethod args0 below0 = true := by decide +kernel
theorem w_running : about1.status = .running := rfl
set_option maxRecDepth 65536 in
theorem w_room : about1.hasRoom e0.platform room_1 = true :=
  launch0.hasRoom_least _ room_1 (by decide +kernel) (by decide +kernel) (by decide +kernel) (by decide +kernel) (by decide +kernel) (by decide +kernel)
theorem allAtoms_all (ts : List Jvm.Cond) (a : Array Jvm.Value) (st : Jvm.State) : (allAtoms ts).before a st = ts.all (fun c => c.before a st) := by
  induction ts with
  | nil => rfl
  | cons c t ih =>
    show (Jvm.Cond.and c (allAtoms t)).before a st = _
    rw [Jvm.Cond.before_and, ih, List.all_cons]
def words1 : List Jvm.Cond := Jvm.Cond.code x code maxLocals ret :: tables_1
/-- a 'code' word, met by the world's own term for the bytes: nothing is compared byte by byte -/
theorem code_word {y : MethodName} {bytes : ByteArray} {mx : Nat} {rt : Option FieldType} {a : Array Value} {s : State} {m : MethodId} {meth : Method} {c : Code} (h1 : s.methodNamed? y = some m) (h2 : s.vm.method? m = some meth) (h3 : meth.code = some c) (h4 : c.code = bytes)
    (h5 : (c.maxLocals == mx && c.exceptionTable.isEmpty && decide (c.maxStack ≤ mostOperands) && decide (meth.sig.returnType = rt) && !meth.locks && decide (parseMethodDescriptor y.desc = some meth.sig)) = true) : (Jvm.Cond.code y bytes mx rt).before a s = true := by
  simp only [Bool.and_eq_true, beq_iff_eq, Bool.not_eq_true', decide_eq_true_eq] at h5
  obtain ⟨⟨⟨⟨⟨g1, g2⟩, g3⟩, g4⟩, g5⟩, g6⟩ := h5
  simp [Cond.before, Cond.holds, Cond.value, h1, h2, h3, h4, g1, g2, g3, g4, g5, g6]
def isCode : Jvm.Cond → Bool
  | .code _ _ _ _ => true
  | _ => false
theorem all_split {L : List Jvm.Cond} {P : Jvm.Cond → Bool} (h1 : L.all (fun c => isCode c || P c) = true) (h2 : ∀ c ∈ L.filter isCode, P c = true) : L.all P = true := by
  refine List.all_eq_true.mpr fun c hc => ?_
  have h := List.all_eq_true.mp h1 c hc
  rcases Bool.eq_false_or_eq_true (isCode c) with hi | hi
  · exact h2 c (List.mem_filter.mpr ⟨hc, hi⟩)
  · simpa [hi] using h
set_option maxRecDepth 65536 in
theorem w_c0 : (Jvm.Cond.code x code maxLocals ret).before args0 about1 = true := code_word (m := ⟨1, 4⟩) (meth := k1m4) (c := k1c4) (by decide +kernel) rfl rfl rfl (by decide +kernel)
set_option maxRecDepth 65536 in
theorem w_c1 : (Jvm.Cond.code ({ cls := "com/example/tarcal/tarcal/schedules/DatedPrice", name := "<init>", desc := "(Ljava/math/BigDecimal;Ljava/time/LocalDate;Ljava/util/Optional;Ljava/util/Optional;)V" } : Jvm.MethodName) prog_26_method_1_code (5 : Nat) (Option.none : Option Jvm.ClassFile.FieldType)).before args0 about1 = true := code_word (m := ⟨3, 0⟩) (meth := k3m0) (c := k3c0) (by decide +kernel) rfl rfl rfl (by decide +kernel)
set_option maxRecDepth 65536 in
theorem w_c2 : (Jvm.Cond.code ({ cls := "java/lang/Record", name := "<init>", desc := "()V" } : Jvm.MethodName) jdk_30_method_1_code (1 : Nat) (Option.none : Option Jvm.ClassFile.FieldType)).before args0 about1 = true := code_word (m := ⟨2, 0⟩) (meth := k2m0) (c := k2c0) (by decide +kernel) rfl rfl rfl (by decide +kernel)
set_option maxRecDepth 65536 in
theorem w_c3 : (Jvm.Cond.code ({ cls := "java/lang/Object", name := "<init>", desc := "()V" } : Jvm.MethodName) object_method_1_code (1 : Nat) (Option.none : Option Jvm.ClassFile.FieldType)).before args0 about1 = true := code_word (m := ⟨0, 0⟩) (meth := k0m0) (c := k0c0) (by decide +kernel) rfl rfl rfl (by decide +kernel)
set_option maxRecDepth 65536 in
theorem w_c4 : (Jvm.Cond.code ({ cls := "java/lang/String", name := "<init>", desc := "([C)V" } : Jvm.MethodName) jdk_42_method_3_code (2 : Nat) (Option.none : Option Jvm.ClassFile.FieldType)).before args0 about1 = true := code_word (m := ⟨9, 1⟩) (meth := k9m1) (c := k9c1) (by decide +kernel) rfl rfl rfl (by decide +kernel)
set_option maxRecDepth 65536 in
theorem w_c5 : (Jvm.Cond.code ({ cls := "java/lang/String", name := "<init>", desc := "([CIILjava/lang/Void;)V" } : Jvm.MethodName) jdk_42_method_149_code (6 : Nat) (Option.none : Option Jvm.ClassFile.FieldType)).before args0 about1 = true := code_word (m := ⟨9, 3⟩) (meth := k9m3) (c := k9c3) (by decide +kernel) rfl rfl rfl (by decide +kernel)
set_option maxRecDepth 65536 in
theorem w_c6 : (Jvm.Cond.code ({ cls := "java/lang/StringUTF16", name := "compress", desc := "([CII)[B" } : Jvm.MethodName) jdk_52_method_16_code (6 : Nat) (Option.some (Jvm.ClassFile.FieldType.array Jvm.ClassFile.FieldType.byte))).before args0 about1 = true := code_word (m := ⟨10, 2⟩) (meth := k10m2) (c := k10c2) (by decide +kernel) rfl rfl rfl (by decide +kernel)
set_option maxRecDepth 65536 in
theorem w_c7 : (Jvm.Cond.code ({ cls := "java/lang/StringUTF16", name := "compress", desc := "([CI[BII)I" } : Jvm.MethodName) jdk_52_method_21_code (7 : Nat) (Option.some Jvm.ClassFile.FieldType.int)).before args0 about1 = true := code_word (m := ⟨10, 3⟩) (meth := k10m3) (c := k10c3) (by decide +kernel) rfl rfl rfl (by decide +kernel)
set_option maxRecDepth 65536 in
theorem w_c8 : (Jvm.Cond.code ({ cls := "java/lang/StringUTF16", name := "coderFromArrayLen", desc := "([BI)B" } : Jvm.MethodName) jdk_52_method_15_code (2 : Nat) (Option.some Jvm.ClassFile.FieldType.byte)).before args0 about1 = true := code_word (m := ⟨10, 1⟩) (meth := k10m1) (c := k10c1) (by decide +kernel) rfl rfl rfl (by decide +kernel)
set_option maxRecDepth 65536 in
theorem w_c9 : (Jvm.Cond.code ({ cls := "com/example/tarcal/tarcal/schedules/ChargeWithPricesPinLaw", name := "build", desc := "(ILcom/example/tarcal/tarcal/schedules/DatedPrice;Lcom/example/tarcal/tarcal/schedules/DatedPrice;)Ljava/util/ArrayList;" } : Jvm.MethodName) method_3_code (5 : Nat) (Option.some (Jvm.ClassFile.FieldType.object "java/util/ArrayList"))).before args0 about1 = true := code_word (m := ⟨1, 2⟩) (meth := k1m2) (c := k1c2) (by decide +kernel) rfl rfl rfl (by decide +kernel)
set_option maxRecDepth 65536 in
theorem w_c10 : (Jvm.Cond.code ({ cls := "java/util/ArrayList", name := "<init>", desc := "()V" } : Jvm.MethodName) jdk_38_method_2_code (1 : Nat) (Option.none : Option Jvm.ClassFile.FieldType)).before args0 about1 = true := code_word (m := ⟨21, 0⟩) (meth := k21m0) (c := k21c0) (by decide +kernel) rfl rfl rfl (by decide +kernel)
set_option maxRecDepth 65536 in
theorem w_c11 : (Jvm.Cond.code ({ cls := "java/util/AbstractList", name := "<init>", desc := "()V" } : Jvm.MethodName) jdk_39_method_1_code (1 : Nat) (Option.none : Option Jvm.ClassFile.FieldType)).before args0 about1 = true := code_word (m := ⟨18, 0⟩) (meth := k18m0) (c := k18c0) (by decide +kernel) rfl rfl rfl (by decide +kernel)
set_option maxRecDepth 65536 in
theorem w_c12 : (Jvm.Cond.code ({ cls := "java/util/AbstractCollection", name := "<init>", desc := "()V" } : Jvm.MethodName) jdk_22_method_1_code (1 : Nat) (Option.none : Option Jvm.ClassFile.FieldType)).before args0 about1 = true := code_word (m := ⟨15, 0⟩) (meth := k15m0) (c := k15c0) (by decide +kernel) rfl rfl rfl (by decide +kernel)
set_option maxRecDepth 65536 in
theorem w_c13 : (Jvm.Cond.code ({ cls := "com/example/tarcal/tarcal/schedules/ChargeWithPricesPinLaw", name := "pick", desc := "(IILcom/example/tarcal/tarcal/schedules/DatedPrice;Lcom/example/tarcal/tarcal/schedules/DatedPrice;)Lcom/example/tarcal/tarcal/schedules/DatedPrice;" } : Jvm.MethodName) method_2_code (4 : Nat) (Option.some (Jvm.ClassFile.FieldType.object "com/example/tarcal/tarcal/schedules/DatedPrice"))).before args0 about1 = true := code_word (m := ⟨1, 1⟩) (meth := k1m1) (c := k1c1) (by decide +kernel) rfl rfl rfl (by decide +kernel)
set_option maxRecDepth 65536 in
theorem w_c14 : (Jvm.Cond.code ({ cls := "java/util/ArrayList", name := "add", desc := "(Ljava/lang/Object;)Z" } : Jvm.MethodName) jdk_38_method_25_code (2 : Nat) (Option.some Jvm.ClassFile.FieldType.boolean)).before args0 about1 = true := code_word (m := ⟨21, 6⟩) (meth := k21m6) (c := k21c6) (by decide +kernel) rfl rfl rfl (by decide +kernel)
set_option maxRecDepth 65536 in
theorem w_c15 : (Jvm.Cond.code ({ cls := "java/util/ArrayList", name := "add", desc := "(Ljava/lang/Object;[Ljava/lang/Object;I)V" } : Jvm.MethodName) jdk_38_method_24_code (4 : Nat) (Option.none : Option Jvm.ClassFile.FieldType)).before args0 about1 = true := code_word (m := ⟨21, 5⟩) (meth := k21m5) (c := k21c5) (by decide +kernel) rfl rfl rfl (by decide +kernel)
set_option maxRecDepth 65536 in
theorem w_c16 : (Jvm.Cond.code ({ cls := "java/util/ArrayList", name := "grow", desc := "()[Ljava/lang/Object;" } : Jvm.MethodName) jdk_38_method_7_code (1 : Nat) (Option.some (Jvm.ClassFile.FieldType.array (Jvm.ClassFile.FieldType.object "java/lang/Object")))).before args0 about1 = true := code_word (m := ⟨21, 2⟩) (meth := k21m2) (c := k21c2) (by decide +kernel) rfl rfl rfl (by decide +kernel)
set_option maxRecDepth 65536 in
theorem w_c17 : (Jvm.Cond.code ({ cls := "java/util/ArrayList", name := "grow", desc := "(I)[Ljava/lang/Object;" } : Jvm.MethodName) jdk_38_method_6_code (4 : Nat) (Option.some (Jvm.ClassFile.FieldType.array (Jvm.ClassFile.FieldType.object "java/lang/Object")))).before args0 about1 = true := code_word (m := ⟨21, 1⟩) (meth := k21m1) (c := k21c1) (by decide +kernel) rfl rfl rfl (by decide +kernel)
set_option maxRecDepth 65536 in
theorem w_c18 : (Jvm.Cond.code ({ cls := "java/lang/Math", name := "max", desc := "(II)I" } : Jvm.MethodName) jdk_29_method_65_code (2 : Nat) (Option.some Jvm.ClassFile.FieldType.int)).before args0 about1 = true := code_word (m := ⟨22, 1⟩) (meth := k22m1) (c := k22c1) (by decide +kernel) rfl rfl rfl (by decide +kernel)
set_option maxRecDepth 65536 in
theorem w_c19 : (Jvm.Cond.code ({ cls := "com/example/tarcal/tarcal/schedules/Charge", name := "<init>", desc := "(Ljava/lang/String;Ljava/lang/String;Lcom/example/tarcal/tarcal/schedules/Basis;Ljava/util/Optional;Ljava/util/Optional;Ljava/util/List;)V" } : Jvm.MethodName) prog_22_method_1_code (7 : Nat) (Option.none : Option Jvm.ClassFile.FieldType)).before args0 about1 = true := code_word (m := ⟨23, 0⟩) (meth := k23m0) (c := k23c0) (by decide +kernel) rfl rfl rfl (by decide +kernel)
set_option maxRecDepth 65536 in
theorem w_c20 : (Jvm.Cond.code ({ cls := "java/util/List", name := "copyOf", desc := "(Ljava/util/Collection;)Ljava/util/List;" } : Jvm.MethodName) jdk_40_method_48_code (1 : Nat) (Option.some (Jvm.ClassFile.FieldType.object "java/util/List"))).before args0 about1 = true := code_word (m := ⟨17, 4⟩) (meth := k17m4) (c := k17c4) (by decide +kernel) rfl rfl rfl (by decide +kernel)
set_option maxRecDepth 65536 in
theorem w_c21 : (Jvm.Cond.code ({ cls := "java/util/ImmutableCollections", name := "listCopy", desc := "(Ljava/util/Collection;)Ljava/util/List;" } : Jvm.MethodName) jdk_56_method_3_code (2 : Nat) (Option.some (Jvm.ClassFile.FieldType.object "java/util/List"))).before args0 about1 = true := code_word (m := ⟨24, 1⟩) (meth := k24m1) (c := k24c1) (by decide +kernel) rfl rfl rfl (by decide +kernel)
set_option maxRecDepth 65536 in
theorem w_c22 : (Jvm.Cond.code ({ cls := "java/util/ArrayList", name := "isEmpty", desc := "()Z" } : Jvm.MethodName) jdk_38_method_9_code (1 : Nat) (Option.some Jvm.ClassFile.FieldType.boolean)).before args0 about1 = true := code_word (m := ⟨21, 3⟩) (meth := k21m3) (c := k21c3) (by decide +kernel) rfl rfl rfl (by decide +kernel)
set_option maxRecDepth 65536 in
theorem w_c23 : (Jvm.Cond.code ({ cls := "java/util/ArrayList", name := "toArray", desc := "()[Ljava/lang/Object;" } : Jvm.MethodName) jdk_38_method_16_code (1 : Nat) (Option.some (Jvm.ClassFile.FieldType.array (Jvm.ClassFile.FieldType.object "java/lang/Object")))).before args0 about1 = true := code_word (m := ⟨21, 4⟩) (meth := k21m4) (c := k21c4) (by decide +kernel) rfl rfl rfl (by decide +kernel)
set_option maxRecDepth 65536 in
theorem w_c24 : (Jvm.Cond.code ({ cls := "java/util/Arrays", name := "copyOf", desc := "([Ljava/lang/Object;I)[Ljava/lang/Object;" } : Jvm.MethodName) jdk_65_method_119_code (2 : Nat) (Option.some (Jvm.ClassFile.FieldType.array (Jvm.ClassFile.FieldType.object "java/lang/Object")))).before args0 about1 = true := code_word (m := ⟨29, 1⟩) (meth := k29m1) (c := k29c1) (by decide +kernel) rfl rfl rfl (by decide +kernel)
set_option maxRecDepth 65536 in
theorem w_c25 : (Jvm.Cond.code ({ cls := "java/util/Arrays", name := "copyOf", desc := "([Ljava/lang/Object;ILjava/lang/Class;)[Ljava/lang/Object;" } : Jvm.MethodName) jdk_65_method_120_code (4 : Nat) (Option.some (Jvm.ClassFile.FieldType.array (Jvm.ClassFile.FieldType.object "java/lang/Object")))).before args0 about1 = true := code_word (m := ⟨29, 2⟩) (meth := k29m2) (c := k29c2) (by decide +kernel) rfl rfl rfl (by decide +kernel)
set_option maxRecDepth 65536 in
theorem w_c26 : (Jvm.Cond.code ({ cls := "java/lang/Math", name := "min", desc := "(II)I" } : Jvm.MethodName) jdk_29_method_69_code (2 : Nat) (Option.some Jvm.ClassFile.FieldType.int)).before args0 about1 = true := code_word (m := ⟨22, 2⟩) (meth := k22m2) (c := k22c2) (by decide +kernel) rfl rfl rfl (by decide +kernel)
set_option maxRecDepth 65536 in
theorem w_c27 : (Jvm.Cond.code ({ cls := "java/util/List", name := "of", desc := "([Ljava/lang/Object;)Ljava/util/List;" } : Jvm.MethodName) jdk_40_method_47_code (2 : Nat) (Option.some (Jvm.ClassFile.FieldType.object "java/util/List"))).before args0 about1 = true := code_word (m := ⟨17, 3⟩) (meth := k17m3) (c := k17c3) (by decide +kernel) rfl rfl rfl (by decide +kernel)
set_option maxRecDepth 65536 in
theorem w_c28 : (Jvm.Cond.code ({ cls := "java/util/ImmutableCollections$List12", name := "<init>", desc := "(Ljava/lang/Object;)V" } : Jvm.MethodName) jdk_44_method_1_code (2 : Nat) (Option.none : Option Jvm.ClassFile.FieldType)).before args0 about1 = true := code_word (m := ⟨27, 0⟩) (meth := k27m0) (c := k27c0) (by decide +kernel) rfl rfl rfl (by decide +kernel)
set_option maxRecDepth 65536 in
theorem w_c29 : (Jvm.Cond.code ({ cls := "java/util/ImmutableCollections$AbstractImmutableList", name := "<init>", desc := "()V" } : Jvm.MethodName) jdk_46_method_1_code (1 : Nat) (Option.none : Option Jvm.ClassFile.FieldType)).before args0 about1 = true := code_word (m := ⟨26, 0⟩) (meth := k26m0) (c := k26c0) (by decide +kernel) rfl rfl rfl (by decide +kernel)
set_option maxRecDepth 65536 in
theorem w_c30 : (Jvm.Cond.code ({ cls := "java/util/ImmutableCollections$AbstractImmutableCollection", name := "<init>", desc := "()V" } : Jvm.MethodName) jdk_47_method_1_code (1 : Nat) (Option.none : Option Jvm.ClassFile.FieldType)).before args0 about1 = true := code_word (m := ⟨25, 0⟩) (meth := k25m0) (c := k25c0) (by decide +kernel) rfl rfl rfl (by decide +kernel)
set_option maxRecDepth 65536 in
theorem w_c31 : (Jvm.Cond.code ({ cls := "java/util/Objects", name := "requireNonNull", desc := "(Ljava/lang/Object;)Ljava/lang/Object;" } : Jvm.MethodName) jdk_31_method_10_code (1 : Nat) (Option.some (Jvm.ClassFile.FieldType.object "java/lang/Object"))).before args0 about1 = true := code_word (m := ⟨31, 1⟩) (meth := k31m1) (c := k31c1) (by decide +kernel) rfl rfl rfl (by decide +kernel)
set_option maxRecDepth 65536 in
theorem w_c32 : (Jvm.Cond.code ({ cls := "com/example/tarcal/tarcal/schedules/Charge", name := "withPrices", desc := "(Ljava/util/List;)Lcom/example/tarcal/tarcal/schedules/Charge;" } : Jvm.MethodName) prog_22_method_2_code (2 : Nat) (Option.some (Jvm.ClassFile.FieldType.object "com/example/tarcal/tarcal/schedules/Charge"))).before args0 about1 = true := code_word (m := ⟨23, 1⟩) (meth := k23m1) (c := k23c1) (by decide +kernel) rfl rfl rfl (by decide +kernel)
set_option maxRecDepth 65536 in
theorem w_c33 : (Jvm.Cond.code ({ cls := "java/util/List", name := "of", desc := "()Ljava/util/List;" } : Jvm.MethodName) jdk_40_method_36_code (0 : Nat) (Option.some (Jvm.ClassFile.FieldType.object "java/util/List"))).before args0 about1 = true := code_word (m := ⟨17, 2⟩) (meth := k17m2) (c := k17c2) (by decide +kernel) rfl rfl rfl (by decide +kernel)
set_option maxRecDepth 65536 in
theorem w_c34 : (Jvm.Cond.code ({ cls := "com/example/tarcal/tarcal/schedules/Charge", name := "id", desc := "()Ljava/lang/String;" } : Jvm.MethodName) prog_22_method_9_code (1 : Nat) (Option.some (Jvm.ClassFile.FieldType.object "java/lang/String"))).before args0 about1 = true := code_word (m := ⟨23, 2⟩) (meth := k23m2) (c := k23c2) (by decide +kernel) rfl rfl rfl (by decide +kernel)
set_option maxRecDepth 65536 in
theorem w_c35 : (Jvm.Cond.code ({ cls := "java/lang/String", name := "equals", desc := "(Ljava/lang/Object;)Z" } : Jvm.MethodName) jdk_42_method_66_code (3 : Nat) (Option.some Jvm.ClassFile.FieldType.boolean)).before args0 about1 = true := code_word (m := ⟨9, 2⟩) (meth := k9m2) (c := k9c2) (by decide +kernel) rfl rfl rfl (by decide +kernel)
set_option maxRecDepth 65536 in
theorem w_c36 : (Jvm.Cond.code ({ cls := "com/example/tarcal/tarcal/schedules/Charge", name := "name", desc := "()Ljava/lang/String;" } : Jvm.MethodName) prog_22_method_10_code (1 : Nat) (Option.some (Jvm.ClassFile.FieldType.object "java/lang/String"))).before args0 about1 = true := code_word (m := ⟨23, 3⟩) (meth := k23m3) (c := k23c3) (by decide +kernel) rfl rfl rfl (by decide +kernel)
set_option maxRecDepth 65536 in
theorem w_c37 : (Jvm.Cond.code ({ cls := "com/example/tarcal/tarcal/schedules/Charge", name := "basis", desc := "()Lcom/example/tarcal/tarcal/schedules/Basis;" } : Jvm.MethodName) prog_22_method_11_code (1 : Nat) (Option.some (Jvm.ClassFile.FieldType.object "com/example/tarcal/tarcal/schedules/Basis"))).before args0 about1 = true := code_word (m := ⟨23, 4⟩) (meth := k23m4) (c := k23c4) (by decide +kernel) rfl rfl rfl (by decide +kernel)
set_option maxRecDepth 65536 in
theorem w_c38 : (Jvm.Cond.code ({ cls := "com/example/tarcal/tarcal/schedules/Charge", name := "onlyFor", desc := "()Ljava/util/Optional;" } : Jvm.MethodName) prog_22_method_12_code (1 : Nat) (Option.some (Jvm.ClassFile.FieldType.object "java/util/Optional"))).before args0 about1 = true := code_word (m := ⟨23, 5⟩) (meth := k23m5) (c := k23c5) (by decide +kernel) rfl rfl rfl (by decide +kernel)
set_option maxRecDepth 65536 in
theorem w_c39 : (Jvm.Cond.code ({ cls := "com/example/tarcal/tarcal/schedules/Charge", name := "chargeFor", desc := "()Ljava/util/Optional;" } : Jvm.MethodName) prog_22_method_13_code (1 : Nat) (Option.some (Jvm.ClassFile.FieldType.object "java/util/Optional"))).before args0 about1 = true := code_word (m := ⟨23, 6⟩) (meth := k23m6) (c := k23c6) (by decide +kernel) rfl rfl rfl (by decide +kernel)
set_option maxRecDepth 65536 in
theorem w_c40 : (Jvm.Cond.code ({ cls := "com/example/tarcal/tarcal/schedules/Charge", name := "prices", desc := "()Ljava/util/List;" } : Jvm.MethodName) prog_22_method_14_code (1 : Nat) (Option.some (Jvm.ClassFile.FieldType.object "java/util/List"))).before args0 about1 = true := code_word (m := ⟨23, 7⟩) (meth := k23m7) (c := k23c7) (by decide +kernel) rfl rfl rfl (by decide +kernel)
set_option maxRecDepth 65536 in
theorem w_c41 : (Jvm.Cond.code ({ cls := "com/example/tarcal/tarcal/schedules/ChargeWithPricesPinLaw", name := "matches", desc := "(Ljava/util/List;ILcom/example/tarcal/tarcal/schedules/DatedPrice;Lcom/example/tarcal/tarcal/schedules/DatedPrice;)Z" } : Jvm.MethodName) method_4_code (5 : Nat) (Option.some Jvm.ClassFile.FieldType.boolean)).before args0 about1 = true := code_word (m := ⟨1, 3⟩) (meth := k1m3) (c := k1c3) (by decide +kernel) rfl rfl rfl (by decide +kernel)
set_option maxRecDepth 65536 in
theorem w_c42 : (Jvm.Cond.code ({ cls := "java/util/ImmutableCollections$ListN", name := "size", desc := "()I" } : Jvm.MethodName) jdk_45_method_3_code (1 : Nat) (Option.some Jvm.ClassFile.FieldType.int)).before args0 about1 = true := code_word (m := ⟨28, 1⟩) (meth := k28m1) (c := k28c1) (by decide +kernel) rfl rfl rfl (by decide +kernel)
set_option maxRecDepth 65536 in
theorem w_c43 : (Jvm.Cond.code ({ cls := "java/util/ImmutableCollections$List12", name := "size", desc := "()I" } : Jvm.MethodName) jdk_44_method_3_code (1 : Nat) (Option.some Jvm.ClassFile.FieldType.int)).before args0 about1 = true := code_word (m := ⟨27, 2⟩) (meth := k27m2) (c := k27c2) (by decide +kernel) rfl rfl rfl (by decide +kernel)
set_option maxRecDepth 65536 in
theorem w_c44 : (Jvm.Cond.code ({ cls := "java/util/ImmutableCollections$List12", name := "get", desc := "(I)Ljava/lang/Object;" } : Jvm.MethodName) jdk_44_method_5_code (2 : Nat) (Option.some (Jvm.ClassFile.FieldType.object "java/lang/Object"))).before args0 about1 = true := code_word (m := ⟨27, 3⟩) (meth := k27m3) (c := k27c3) (by decide +kernel) rfl rfl rfl (by decide +kernel)
set_option maxRecDepth 65536 in
theorem w_c45 : (Jvm.Cond.code ({ cls := "java/util/ImmutableCollections", name := "listFromArray", desc := "([Ljava/lang/Object;)Ljava/util/List;" } : Jvm.MethodName) jdk_56_method_4_code (3 : Nat) (Option.some (Jvm.ClassFile.FieldType.object "java/util/List"))).before args0 about1 = true := code_word (m := ⟨24, 2⟩) (meth := k24m2) (c := k24c2) (by decide +kernel) rfl rfl rfl (by decide +kernel)
set_option maxRecDepth 65536 in
theorem w_c46 : (Jvm.Cond.code ({ cls := "java/util/ImmutableCollections$ListN", name := "<init>", desc := "([Ljava/lang/Object;Z)V" } : Jvm.MethodName) jdk_45_method_1_code (3 : Nat) (Option.none : Option Jvm.ClassFile.FieldType)).before args0 about1 = true := code_word (m := ⟨28, 0⟩) (meth := k28m0) (c := k28c0) (by decide +kernel) rfl rfl rfl (by decide +kernel)
set_option maxRecDepth 65536 in
theorem w_c47 : (Jvm.Cond.code ({ cls := "java/util/ImmutableCollections$ListN", name := "get", desc := "(I)Ljava/lang/Object;" } : Jvm.MethodName) jdk_45_method_4_code (2 : Nat) (Option.some (Jvm.ClassFile.FieldType.object "java/lang/Object"))).before args0 about1 = true := code_word (m := ⟨28, 2⟩) (meth := k28m2) (c := k28c2) (by decide +kernel) rfl rfl rfl (by decide +kernel)
set_option maxRecDepth 65536 in
theorem w_c48 : (Jvm.Cond.code ({ cls := "java/util/ImmutableCollections$List12", name := "<init>", desc := "(Ljava/lang/Object;Ljava/lang/Object;)V" } : Jvm.MethodName) jdk_44_method_2_code (3 : Nat) (Option.none : Option Jvm.ClassFile.FieldType)).before args0 about1 = true := code_word (m := ⟨27, 1⟩) (meth := k27m1) (c := k27c1) (by decide +kernel) rfl rfl rfl (by decide +kernel)
def codes1 : List Jvm.Cond := [Jvm.Cond.code x code maxLocals ret, Jvm.Cond.code ({ cls := "com/example/tarcal/tarcal/schedules/DatedPrice", name := "<init>", desc := "(Ljava/math/BigDecimal;Ljava/time/LocalDate;Ljava/util/Optional;Ljava/util/Optional;)V" } : Jvm.MethodName) prog_26_method_1_code (5 : Nat) (Option.none : Option Jvm.ClassFile.FieldType), Jvm.Cond.code ({ cls := "java/lang/Record", name := "<init>", desc := "()V" } : Jvm.MethodName) jdk_30_method_1_code (1 : Nat) (Option.none : Option Jvm.ClassFile.FieldType), Jvm.Cond.code ({ cls := "java/lang/Object", name := "<init>", desc := "()V" } : Jvm.MethodName) object_method_1_code (1 : Nat) (Option.none : Option Jvm.ClassFile.FieldType), Jvm.Cond.code ({ cls := "java/lang/String", name := "<init>", desc := "([C)V" } : Jvm.MethodName) jdk_42_method_3_code (2 : Nat) (Option.none : Option Jvm.ClassFile.FieldType), Jvm.Cond.code ({ cls := "java/lang/String", name := "<init>", desc := "([CIILjava/lang/Void;)V" } : Jvm.MethodName) jdk_42_method_149_code (6 : Nat) (Option.none : Option Jvm.ClassFile.FieldType), Jvm.Cond.code ({ cls := "java/lang/StringUTF16", name := "compress", desc := "([CII)[B" } : Jvm.MethodName) jdk_52_method_16_code (6 : Nat) (Option.some (Jvm.ClassFile.FieldType.array Jvm.ClassFile.FieldType.byte)), Jvm.Cond.code ({ cls := "java/lang/StringUTF16", name := "compress", desc := "([CI[BII)I" } : Jvm.MethodName) jdk_52_method_21_code (7 : Nat) (Option.some Jvm.ClassFile.FieldType.int), Jvm.Cond.code ({ cls := "java/lang/StringUTF16", name := "coderFromArrayLen", desc := "([BI)B" } : Jvm.MethodName) jdk_52_method_15_code (2 : Nat) (Option.some Jvm.ClassFile.FieldType.byte), Jvm.Cond.code ({ cls := "com/example/tarcal/tarcal/schedules/ChargeWithPricesPinLaw", name := "build", desc := "(ILcom/example/tarcal/tarcal/schedules/DatedPrice;Lcom/example/tarcal/tarcal/schedules/DatedPrice;)Ljava/util/ArrayList;" } : Jvm.MethodName) method_3_code (5 : Nat) (Option.some (Jvm.ClassFile.FieldType.object "java/util/ArrayList")), Jvm.Cond.code ({ cls := "java/util/ArrayList", name := "<init>", desc := "()V" } : Jvm.MethodName) jdk_38_method_2_code (1 : Nat) (Option.none : Option Jvm.ClassFile.FieldType), Jvm.Cond.code ({ cls := "java/util/AbstractList", name := "<init>", desc := "()V" } : Jvm.MethodName) jdk_39_method_1_code (1 : Nat) (Option.none : Option Jvm.ClassFile.FieldType), Jvm.Cond.code ({ cls := "java/util/AbstractCollection", name := "<init>", desc := "()V" } : Jvm.MethodName) jdk_22_method_1_code (1 : Nat) (Option.none : Option Jvm.ClassFile.FieldType), Jvm.Cond.code ({ cls := "com/example/tarcal/tarcal/schedules/ChargeWithPricesPinLaw", name := "pick", desc := "(IILcom/example/tarcal/tarcal/schedules/DatedPrice;Lcom/example/tarcal/tarcal/schedules/DatedPrice;)Lcom/example/tarcal/tarcal/schedules/DatedPrice;" } : Jvm.MethodName) method_2_code (4 : Nat) (Option.some (Jvm.ClassFile.FieldType.object "com/example/tarcal/tarcal/schedules/DatedPrice")), Jvm.Cond.code ({ cls := "java/util/ArrayList", name := "add", desc := "(Ljava/lang/Object;)Z" } : Jvm.MethodName) jdk_38_method_25_code (2 : Nat) (Option.some Jvm.ClassFile.FieldType.boolean), Jvm.Cond.code ({ cls := "java/util/ArrayList", name := "add", desc := "(Ljava/lang/Object;[Ljava/lang/Object;I)V" } : Jvm.MethodName) jdk_38_method_24_code (4 : Nat) (Option.none : Option Jvm.ClassFile.FieldType), Jvm.Cond.code ({ cls := "java/util/ArrayList", name := "grow", desc := "()[Ljava/lang/Object;" } : Jvm.MethodName) jdk_38_method_7_code (1 : Nat) (Option.some (Jvm.ClassFile.FieldType.array (Jvm.ClassFile.FieldType.object "java/lang/Object"))), Jvm.Cond.code ({ cls := "java/util/ArrayList", name := "grow", desc := "(I)[Ljava/lang/Object;" } : Jvm.MethodName) jdk_38_method_6_code (4 : Nat) (Option.some (Jvm.ClassFile.FieldType.array (Jvm.ClassFile.FieldType.object "java/lang/Object"))), Jvm.Cond.code ({ cls := "java/lang/Math", name := "max", desc := "(II)I" } : Jvm.MethodName) jdk_29_method_65_code (2 : Nat) (Option.some Jvm.ClassFile.FieldType.int), Jvm.Cond.code ({ cls := "com/example/tarcal/tarcal/schedules/Charge", name := "<init>", desc := "(Ljava/lang/String;Ljava/lang/String;Lcom/example/tarcal/tarcal/schedules/Basis;Ljava/util/Optional;Ljava/util/Optional;Ljava/util/List;)V" } : Jvm.MethodName) prog_22_method_1_code (7 : Nat) (Option.none : Option Jvm.ClassFile.FieldType), Jvm.Cond.code ({ cls := "java/util/List", name := "copyOf", desc := "(Ljava/util/Collection;)Ljava/util/List;" } : Jvm.MethodName) jdk_40_method_48_code (1 : Nat) (Option.some (Jvm.ClassFile.FieldType.object "java/util/List")), Jvm.Cond.code ({ cls := "java/util/ImmutableCollections", name := "listCopy", desc := "(Ljava/util/Collection;)Ljava/util/List;" } : Jvm.MethodName) jdk_56_method_3_code (2 : Nat) (Option.some (Jvm.ClassFile.FieldType.object "java/util/List")), Jvm.Cond.code ({ cls := "java/util/ArrayList", name := "isEmpty", desc := "()Z" } : Jvm.MethodName) jdk_38_method_9_code (1 : Nat) (Option.some Jvm.ClassFile.FieldType.boolean), Jvm.Cond.code ({ cls := "java/util/ArrayList", name := "toArray", desc := "()[Ljava/lang/Object;" } : Jvm.MethodName) jdk_38_method_16_code (1 : Nat) (Option.some (Jvm.ClassFile.FieldType.array (Jvm.ClassFile.FieldType.object "java/lang/Object"))), Jvm.Cond.code ({ cls := "java/util/Arrays", name := "copyOf", desc := "([Ljava/lang/Object;I)[Ljava/lang/Object;" } : Jvm.MethodName) jdk_65_method_119_code (2 : Nat) (Option.some (Jvm.ClassFile.FieldType.array (Jvm.ClassFile.FieldType.object "java/lang/Object"))), Jvm.Cond.code ({ cls := "java/util/Arrays", name := "copyOf", desc := "([Ljava/lang/Object;ILjava/lang/Class;)[Ljava/lang/Object;" } : Jvm.MethodName) jdk_65_method_120_code (4 : Nat) (Option.some (Jvm.ClassFile.FieldType.array (Jvm.ClassFile.FieldType.object "java/lang/Object"))), Jvm.Cond.code ({ cls := "java/lang/Math", name := "min", desc := "(II)I" } : Jvm.MethodName) jdk_29_method_69_code (2 : Nat) (Option.some Jvm.ClassFile.FieldType.int), Jvm.Cond.code ({ cls := "java/util/List", name := "of", desc := "([Ljava/lang/Object;)Ljava/util/List;" } : Jvm.MethodName) jdk_40_method_47_code (2 : Nat) (Option.some (Jvm.ClassFile.FieldType.object "java/util/List")), Jvm.Cond.code ({ cls := "java/util/ImmutableCollections$List12", name := "<init>", desc := "(Ljava/lang/Object;)V" } : Jvm.MethodName) jdk_44_method_1_code (2 : Nat) (Option.none : Option Jvm.ClassFile.FieldType), Jvm.Cond.code ({ cls := "java/util/ImmutableCollections$AbstractImmutableList", name := "<init>", desc := "()V" } : Jvm.MethodName) jdk_46_method_1_code (1 : Nat) (Option.none : Option Jvm.ClassFile.FieldType), Jvm.Cond.code ({ cls := "java/util/ImmutableCollections$AbstractImmutableCollection", name := "<init>", desc := "()V" } : Jvm.MethodName) jdk_47_method_1_code (1 : Nat) (Option.none : Option Jvm.ClassFile.FieldType), Jvm.Cond.code ({ cls := "java/util/Objects", name := "requireNonNull", desc := "(Ljava/lang/Object;)Ljava/lang/Object;" } : Jvm.MethodName) jdk_31_method_10_code (1 : Nat) (Option.some (Jvm.ClassFile.FieldType.object "java/lang/Object")), Jvm.Cond.code ({ cls := "com/example/tarcal/tarcal/schedules/Charge", name := "withPrices", desc := "(Ljava/util/List;)Lcom/example/tarcal/tarcal/schedules/Charge;" } : Jvm.MethodName) prog_22_method_2_code (2 : Nat) (Option.some (Jvm.ClassFile.FieldType.object "com/example/tarcal/tarcal/schedules/Charge")), Jvm.Cond.code ({ cls := "java/util/List", name := "of", desc := "()Ljava/util/List;" } : Jvm.MethodName) jdk_40_method_36_code (0 : Nat) (Option.some (Jvm.ClassFile.FieldType.object "java/util/List")), Jvm.Cond.code ({ cls := "com/example/tarcal/tarcal/schedules/Charge", name := "id", desc := "()Ljava/lang/String;" } : Jvm.MethodName) prog_22_method_9_code (1 : Nat) (Option.some (Jvm.ClassFile.FieldType.object "java/lang/String")), Jvm.Cond.code ({ cls := "java/lang/String", name := "equals", desc := "(Ljava/lang/Object;)Z" } : Jvm.MethodName) jdk_42_method_66_code (3 : Nat) (Option.some Jvm.ClassFile.FieldType.boolean), Jvm.Cond.code ({ cls := "com/example/tarcal/tarcal/schedules/Charge", name := "name", desc := "()Ljava/lang/String;" } : Jvm.MethodName) prog_22_method_10_code (1 : Nat) (Option.some (Jvm.ClassFile.FieldType.object "java/lang/String")), Jvm.Cond.code ({ cls := "com/example/tarcal/tarcal/schedules/Charge", name := "basis", desc := "()Lcom/example/tarcal/tarcal/schedules/Basis;" } : Jvm.MethodName) prog_22_method_11_code (1 : Nat) (Option.some (Jvm.ClassFile.FieldType.object "com/example/tarcal/tarcal/schedules/Basis")), Jvm.Cond.code ({ cls := "com/example/tarcal/tarcal/schedules/Charge", name := "onlyFor", desc := "()Ljava/util/Optional;" } : Jvm.MethodName) prog_22_method_12_code (1 : Nat) (Option.some (Jvm.ClassFile.FieldType.object "java/util/Optional")), Jvm.Cond.code ({ cls := "com/example/tarcal/tarcal/schedules/Charge", name := "chargeFor", desc := "()Ljava/util/Optional;" } : Jvm.MethodName) prog_22_method_13_code (1 : Nat) (Option.some (Jvm.ClassFile.FieldType.object "java/util/Optional")), Jvm.Cond.code ({ cls := "com/example/tarcal/tarcal/schedules/Charge", name := "prices", desc := "()Ljava/util/List;" } : Jvm.MethodName) prog_22_method_14_code (1 : Nat) (Option.some (Jvm.ClassFile.FieldType.object "java/util/List")), Jvm.Cond.code ({ cls := "com/example/tarcal/tarcal/schedules/ChargeWithPricesPinLaw", name := "matches", desc := "(Ljava/util/List;ILcom/example/tarcal/tarcal/schedules/DatedPrice;Lcom/example/tarcal/tarcal/schedules/DatedPrice;)Z" } : Jvm.MethodName) method_4_code (5 : Nat) (Option.some Jvm.ClassFile.FieldType.boolean), Jvm.Cond.code ({ cls := "java/util/ImmutableCollections$ListN", name := "size", desc := "()I" } : Jvm.MethodName) jdk_45_method_3_code (1 : Nat) (Option.some Jvm.ClassFile.FieldType.int), Jvm.Cond.code ({ cls := "java/util/ImmutableCollections$List12", name := "size", desc := "()I" } : Jvm.MethodName) jdk_44_method_3_code (1 : Nat) (Option.some Jvm.ClassFile.FieldType.int), Jvm.Cond.code ({ cls := "java/util/ImmutableCollections$List12", name := "get", desc := "(I)Ljava/lang/Object;" } : Jvm.MethodName) jdk_44_method_5_code (2 : Nat) (Option.some (Jvm.ClassFile.FieldType.object "java/lang/Object")), Jvm.Cond.code ({ cls := "java/util/ImmutableCollections", name := "listFromArray", desc := "([Ljava/lang/Object;)Ljava/util/List;" } : Jvm.MethodName) jdk_56_method_4_code (3 : Nat) (Option.some (Jvm.ClassFile.FieldType.object "java/util/List")), Jvm.Cond.code ({ cls := "java/util/ImmutableCollections$ListN", name := "<init>", desc := "([Ljava/lang/Object;Z)V" } : Jvm.MethodName) jdk_45_method_1_code (3 : Nat) (Option.none : Option Jvm.ClassFile.FieldType), Jvm.Cond.code ({ cls := "java/util/ImmutableCollections$ListN", name := "get", desc := "(I)Ljava/lang/Object;" } : Jvm.MethodName) jdk_45_method_4_code (2 : Nat) (Option.some (Jvm.ClassFile.FieldType.object "java/lang/Object")), Jvm.Cond.code ({ cls := "java/util/ImmutableCollections$List12", name := "<init>", desc := "(Ljava/lang/Object;Ljava/lang/Object;)V" } : Jvm.MethodName) jdk_44_method_2_code (3 : Nat) (Option.none : Option Jvm.ClassFile.FieldType)]
set_option maxRecDepth 65536 in
theorem codes_eq : words1.filter isCode = codes1 := rfl
theorem w_codes : ∀ c ∈ words1.filter isCode, c.before args0 about1 = true := by
  rw [codes_eq]
  intro c hc
  simp only [codes1, List.mem_cons, List.not_mem_nil, or_false] at hc
  rcases hc with rfl | rfl | rfl | rfl | rfl | rfl | rfl | rfl | rfl | rfl | rfl | rfl | rfl | rfl | rfl | rfl | rfl | rfl | rfl | rfl | rfl | rfl | rfl | rfl | rfl | rfl | rfl | rfl | rfl | rfl | rfl | rfl | rfl | rfl | rfl | rfl | rfl | rfl | rfl | rfl | rfl | rfl | rfl | rfl | rfl | rfl | rfl | rfl | rfl
  · exact w_c0
  · exact w_c1
  · exact w_c2
  · exact w_c3
  · exact w_c4
  · exact w_c5
  · exact w_c6
  · exact w_c7
  · exact w_c8
  · exact w_c9
  · exact w_c10
  · exact w_c11
  · exact w_c12
  · exact w_c13
  · exact w_c14
  · exact w_c15
  · exact w_c16
  · exact w_c17
  · exact w_c18
  · exact w_c19
  · exact w_c20
  · exact w_c21
  · exact w_c22
  · exact w_c23
  · exact w_c24
  · exact w_c25
  · exact w_c26
  · exact w_c27
  · exact w_c28
  · exact w_c29
  · exact w_c30
  · exact w_c31
  · exact w_c32
  · exact w_c33
  · exact w_c34
  · exact w_c35
  · exact w_c36
  · exact w_c37
  · exact w_c38
  · exact w_c39
  · exact w_c40
  · exact w_c41
  · exact w_c42
  · exact w_c43
  · exact w_c44
  · exact w_c45
  · exact w_c46
  · exact w_c47
  · exact w_c48
set_option maxRecDepth 65536 in
theorem w_t1 : (words1.take 24).all (fun c => isCode c || c.before args0 about1) = true := by decide +kernel
set_option maxRecDepth 65536 in
theorem w_t2 : ((words1.drop 24).take 24).all (fun c => isCode c || c.before args0 about1) = true := by decide +kernel
set_option maxRecDepth 65536 in
theorem w_t3 : (((words1.drop 24).drop 24).take 24).all (fun c => isCode c || c.before args0 about1) = true := by decide +kernel
set_option maxRecDepth 65536 in
theorem w_t4 : ((((words1.drop 24).drop 24).drop 24).take 24).all (fun c => isCode c || c.before args0 about1) = true := by decide +kernel
set_option maxRecDepth 65536 in
theorem w_t5 : (((((words1.drop 24).drop 24).drop 24).drop 24).take 24).all (fun c => isCode c || c.before args0 about1) = true := by decide +kernel
set_option maxRecDepth 65536 in
theorem w_t6 : ((((((words1.drop 24).drop 24).drop 24).drop 24).drop 24).take 24).all (fun c => isCode c || c.before args0 about1) = true := by decide +kernel
set_option maxRecDepth 65536 in
theorem w_t7 : (((((((words1.drop 24).drop 24).drop 24).drop 24).drop 24).drop 24).take 24).all (fun c => isCode c || c.before args0 about1) = true := by decide +kernel
set_option maxRecDepth 65536 in
theorem w_t8 : ((((((((words1.drop 24).drop 24).drop 24).drop 24).drop 24).drop 24).drop 24).take 24).all (fun c => isCode c || c.before args0 about1) = true := by decide +kernel
set_option maxRecDepth 65536 in
theorem w_t9 : (((((((((words1.drop 24).drop 24).drop 24).drop 24).drop 24).drop 24).drop 24).drop 24).take 24).all (fun c => isCode c || c.before args0 about1) = true := by decide +kernel
set_option maxRecDepth 65536 in
theorem w_t10 : ((((((((((words1.drop 24).drop 24).drop 24).drop 24).drop 24).drop 24).drop 24).drop 24).drop 24).take 24).all (fun c => isCode c || c.before args0 about1) = true := by decide +kernel
set_option maxRecDepth 65536 in
theorem w_t11 : (((((((((((words1.drop 24).drop 24).drop 24).drop 24).drop 24).drop 24).drop 24).drop 24).drop 24).drop 24).take 24).all (fun c => isCode c || c.before args0 about1) = true := by decide +kernel
set_option maxRecDepth 65536 in
theorem w_t12 : ((((((((((((words1.drop 24).drop 24).drop 24).drop 24).drop 24).drop 24).drop 24).drop 24).drop 24).drop 24).drop 24).take 24).all (fun c => isCode c || c.before args0 about1) = true := by decide +kernel
set_option maxRecDepth 65536 in
theorem w_t13 : (((((((((((((words1.drop 24).drop 24).drop 24).drop 24).drop 24).drop 24).drop 24).drop 24).drop 24).drop 24).drop 24).drop 24).take 24).all (fun c => isCode c || c.before args0 about1) = true := by decide +kernel
set_option maxRecDepth 65536 in
theorem w_t14 : ((((((((((((((words1.drop 24).drop 24).drop 24).drop 24).drop 24).drop 24).drop 24).drop 24).drop 24).drop 24).drop 24).drop 24).drop 24).take 24).all (fun c => isCode c || c.before args0 about1) = true := by decide +kernel
set_option maxRecDepth 65536 in
theorem w_t15 : ((((((((((((((words1.drop 24).drop 24).drop 24).drop 24).drop 24).drop 24).drop 24).drop 24).drop 24).drop 24).drop 24).drop 24).drop 24).drop 24).all (fun c => isCode c || c.before args0 about1) = true := by decide +kernel
theorem w_tables : (allAtoms (Jvm.Cond.code x code maxLocals ret :: tables_1)).before args0 about1 = true := by
  rw [allAtoms_all]
  show words1.all (fun c => c.before args0 about1) = true
  refine all_split ?_ w_codes
  rw [← List.take_append_drop 24 words1, List.all_append, w_t1, ← List.take_append_drop 24 (words1.drop 24), List.all_append, w_t2, ← List.take_append_drop 24 ((words1.drop 24).drop 24), List.all_append, w_t3, ← List.take_append_drop 24 (((words1.drop 24).drop 24).drop 24), List.all_append, w_t4, ← List.take_append_drop 24 ((((words1.drop 24).drop 24).drop 24).drop 24), List.all_append, w_t5, ← List.take_append_drop 24 (((((words1.drop 24).drop 24).drop 24).drop 24).drop 24), List.all_append, w_t6, ← List.take_append_drop 24 ((((((words1.drop 24).drop 24).drop 24).drop 24).drop 24).drop 24), List.all_append, w_t7, ← List.take_append_drop 24 (((((((words1.drop 24).drop 24).drop 24).drop 24).drop 24).drop 24).drop 24), List.all_append, w_t8, ← List.take_append_drop 24 ((((((((words1.drop 24).drop 24).drop 24).drop 24).drop 24).drop 24).drop 24).drop 24), List.all_append, w_t9, ← List.take_append_drop 24 (((((((((words1.drop 24).drop 24).drop 24).drop 24).drop 24).drop 24).drop 24).drop 24).drop 24), List.all_append, w_t10, ← List.take_append_drop 24 ((((((((((words1.drop 24).drop 24).drop 24).drop 24).drop 24).drop 24).drop 24).drop 24).drop 24).drop 24), List.all_append, w_t11, ← List.take_append_drop 24 (((((((((((words1.drop 24).drop 24).drop 24).drop 24).drop 24).drop 24).drop 24).drop 24).drop 24).drop 24).drop 24), List.all_append, w_t12, ← List.take_append_drop 24 ((((((((((((words1.drop 24).drop 24).drop 24).drop 24).drop 24).drop 24).drop 24).drop 24).drop 24).drop 24).drop 24).drop 24), List.all_append, w_t13, ← List.take_append_drop 24 (((((((((((((words1.drop 24).drop 24).drop 24).drop 24).drop 24).drop 24).drop 24).drop 24).drop 24).drop 24).drop 24).drop 24).drop 24), List.all_append, w_t14, w_t15]
  rfl
set_option maxRecDepth 65536 in
theorem w_rest : rest_1_c.before args0 about1 = true := by decide +kernel
set_option maxRecDepth 65536 in
theorem w_case : (Jvm.Cond.and given_1 narrow_1).before args0 about1 = true := by decide +kernel
theorem w_applies : (headSpec (Jvm.Cond.code x code maxLocals ret :: tables_1) room_1).applies x e0.platform about1 = true :=
  (Spec.applies_iff w_frames).mpr ⟨w_running, w_runnable, w_alone, w_named, w_hears, w_ripe, w_room, w_tables⟩
theorem atStart : AtStart classFile x code maxLocals ret World_1 tables_1 room_1 Calls_1 rest_1 Pre_1 launch0 p0 e0 about1 theMethod args0 below0 :=
  ⟨lists_1, trivial, launch0.admits_env _ _ _, launch0.least_env, fairChoices_fair.cas, fairChoices_fair.clock, w_frames, w_args, w_heap, w_applies, ⟨⟨43, k43, 5, by decide +kernel, rfl, rfl, _, rfl, rfl⟩, trivial⟩, w_rest, w_case⟩
end start1
theorem witness_1 : WitnessClaimed_1 := ⟨start1.p0, start1.e0, start1.about1, start1.theMethod, start1.args0, start1.below0, start1.atStart⟩
end Jvm.Pilot.@@N@@
