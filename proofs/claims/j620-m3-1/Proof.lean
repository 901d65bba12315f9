import JvmDerived
import JvmDerived.Pilot.@@N@@Statement
import JvmDerived.Pilot.@@N@@Code
set_option linter.unusedVariables false
set_option linter.unusedSimpArgs false
namespace Jvm.RoadKit
open Sem ClassFile Op Lib Jvm.Stand Jvm.Free Jvm.LawKit
section New
variable {p : Program} {l : Launch} {e : Env} {R : Room} {s : State} {m : MethodId} {args : Array Value} {below : List Frame} {meth : Method} {c : Code} {T : State} {locs : List Loc} {cells slots : Nat}
theorem retI (X : Stand p l e R s m args below meth c T locs cells slots) (hx : p.tables.exec = Jvm.exec) {pc : Nat} {Ls : Array Slot} {z : Int32} {rest : List Value} (hret : meth.sig.returnType = some .int) (hd : decode c.code pc = .ok (.ireturn, 1)) {fs : List Frame}
    (hl : ∀ (f : JFrame) (acts : List Action), f.method = m → f.locked = none → f.entered = [] → (doReturn e (T.setTop f) acts (some (.int z))).1 = T.setFrames fs) : Steps p.tables e below (T.setTop (mkF m pc Ls (.int z :: rest))) (T.setFrames fs) := by
  have hm' : T.vm.method? m = some meth := X.method'
  have hn : narrow .int (.int z) = .int z := rfl
  show Steps p.tables e below (T.setTop { method := m, pc := pc, locals := Ls, stack := _ :: rest, locked := none }) _
  jvm_step X.here [X.here.top, hx, hd, hm', hret, hn]
  first | (intro acts; rw [hl _ acts rfl rfl rfl]) | rw [hl _ _ rfl rfl rfl]
  exact Steps.refl _
end New
end Jvm.RoadKit
namespace Jvm.Pilot.@@N@@
open Jvm Jvm.ClassFile Sem Op Lib Jvm.Free Jvm.Stand Jvm.LawKit Jvm.RoadKit Bundle Jvm.Pilot.@@N@@.Jvm.D
theorem own_eqI {args : Array Value} {s : State} {t : Term} {k : Int32} (h : (Jvm.Cond.eq t (.int k)).value args s none s [] = some true) : t.eval args s none [] s = some (.int k) := by
  obtain ⟨x, y, hx, hy, -, k2⟩ := cmp_v (Or.inl h)
  obtain rfl : y = .int k := (Option.some.inj ((Term.int_eval k).symm.trans hy)).symm
  obtain ⟨z, rfl⟩ := k2
  have := gotT (Cond.eq_ints hx (Term.int_eval k)) h
  rw [hx, this]
def Q0 (n0 : Nat) (v : Option Value) (L : List Loc) : Prop := v = some (.int 1) ∧ Fr n0 L
def AtC (Z : State) (a : Addr) (ty : FieldType) (j : Int32) (w : Addr) : Prop := ∃ cl : Cell, Arr Z Z.heap a cl ty ∧ ¬ (j < 0 ∨ cl.slots.size ≤ j.toNatClampNeg) ∧ cl.slots[j.toNatClampNeg]? = some (.ref w)
theorem own_box {Z : State} {a : Addr} {c : Cell} {K d : String} {z : Int32} {val : Int32 → Value} (B : Bxs Z a c K d z val) {j : Int32} (h0 : ¬ j < 0) (h1 : j < z) : ∃ w, AtC Z a (.object K) j w ∧ Exa Z Z.heap w K ∧ Fld Z Z.heap w K "value" d (val j) := by
  obtain ⟨A, S, -, F⟩ := B
  have hin := inb_of S ⟨h0, h1⟩
  obtain ⟨w, hw, E, Fl⟩ := F j hin
  exact ⟨w, ⟨c, A, hin, hw⟩, E, Fl⟩
theorem own_len {s : State} {args : Array Value} {t : Term} {a : Addr} {c : Cell} {z : Int32} (ev : t.eval args s none [] s = some (.ref a)) (fl : s.arrayAt? a = some c) (el : (Term.length t).eval args s none [] s = some (.int z)) : c.slots.size < 2 ^ 31 ∧ c.slots.size.toInt32 = z := by
  simp only [Term.eval, ev] at el
  by_cases q : c.slots.size < 2 ^ 31
  · simp [fl, q] at el; exact ⟨q, el⟩
  · simp [fl, q] at el
theorem own_bxs {Z : State} {args : Array Value} {C n dd : String} {F : Term} {a : Addr} {K d : String} {z : Int32} {val : Int32 → Value} (ev : (Term.static C n dd).eval args Z none [] Z = some (.ref a))
    (ha : (Jvm.Cond.arrayOf (.static C n dd) (.object K)).value args Z none Z [] = some true) (hl : (Jvm.Cond.eq (.length (.static C n dd)) (.int z)).value args Z none Z [] = some true) (hz : ¬ z < 0)
    (h : (Jvm.Cond.all (.static C n dd) (.and (.exactly (.elem (.static C n dd) (.index 0)) K) (.eq (.field (.elem (.static C n dd) (.index 0)) K "value" d) F))).value args Z none Z [] = some true)
    (hv : ∀ (X : Term) (j : Int32), ¬ j < 0 → (Jvm.Cond.eq X F).value args Z none Z [j.toNatClampNeg] = some true → X.eval args Z none [j.toNatClampNeg] Z = some (val j)) : ∃ c, Bxs Z a c K d z val := by
  obtain ⟨c, A⟩ := Arr.start ev ha
  have hq := own_len ev (A.fin (Vm.Alike.refl _)) (own_eqI hl)
  exact ⟨c, Bxs.start (fun _ => ev) A hq.1 hq.2 hz h hv⟩
theorem own_arr0 {s : State} {args : Array Value} {t : Term} {a : Addr} {K : String} (hf : Fit s) (ev : t.eval args s none [] s = some (.ref a)) (ha : (Jvm.Cond.arrayOf t (.object K)).value args s none s [] = some true) (hl : (Jvm.Cond.eq (.length t) (.int 0)).value args s none s [] = some true) :
    ∃ k, Arv s s.heap a k (.object K) (0 : Int32) [] .null := by
  obtain ⟨c, A⟩ := Arr.start ev ha
  have hq := own_len ev (A.fin (Vm.Alike.refl _)) (own_eqI hl)
  exact ⟨_, Arv.start hf A hq.1 hq.2 (by decide) rfl trivial⟩
theorem own_eqR {s : State} {args : Array Value} {t u : Term} {w : Addr} (hu : u.eval args s none [] s = some (.ref w)) (h : (Jvm.Cond.eq t u).value args s none s [] = some true) : t.eval args s none [] s = some (.ref w) := by
  obtain ⟨x, y, hx, hy, -, k2⟩ := cmp_v (Or.inl h)
  obtain rfl : y = .ref w := (Option.some.inj (hu.symm.trans hy)).symm
  have := gotT (eq_R hx hu k2.2 rfl) h
  rw [hx, this]
theorem own_idx {Z : State} {args : Array Value} {j : Int32} (hj : ¬ j < 0) : (Term.sub (.index 0) (.int 128)).eval args Z none [j.toNatClampNeg] Z = some (.int (j - 128)) := by
  have e := idx_at (args := args) (s := Z) (first := Z) (o := none) hj
  simp [Term.eval, e]
  exact (back32 hj).1
abbrev SS (p : Program) (e : Env) (b : List Frame) (T : State) (m : MethodId) (pc : Nat) (L : Array Slot) (S : List Value) (t : State) : Prop := Steps p.tables e b (T.setTop (mkF m pc L S)) t
abbrev mn1 : MethodName := (⟨"com/example/aeroslice/aeroslice/SrsDefaultsOfPinLaw", "draw", "(ICCC)Ljava/lang/String;"⟩ : MethodName)
abbrev mn2 : MethodName := (⟨"java/lang/String", "<init>", "([C)V"⟩ : MethodName)
abbrev mn3 : MethodName := (⟨"java/lang/String", "<init>", "([CIILjava/lang/Void;)V"⟩ : MethodName)
abbrev mn4 : MethodName := (⟨"java/lang/Object", "<init>", "()V"⟩ : MethodName)
abbrev mn5 : MethodName := (⟨"java/lang/StringUTF16", "compress", "([CII)[B"⟩ : MethodName)
abbrev mn6 : MethodName := (⟨"java/lang/StringUTF16", "compress", "([CI[BII)I"⟩ : MethodName)
abbrev mn7 : MethodName := (⟨"java/lang/StringUTF16", "coderFromArrayLen", "([BI)B"⟩ : MethodName)
abbrev mn8 : MethodName := (⟨"com/example/aeroslice/aeroslice/SrsDefaults", "of", "(Ljava/lang/String;)Lcom/example/aeroslice/aeroslice/SrsDefaults;"⟩ : MethodName)
abbrev mn9 : MethodName := (⟨"java/util/Map", "of", "()Ljava/util/Map;"⟩ : MethodName)
abbrev mn10 : MethodName := (⟨"com/example/aeroslice/aeroslice/SrsDefaults", "<init>", "(Ljava/lang/String;Ljava/util/Map;)V"⟩ : MethodName)
abbrev mn11 : MethodName := (⟨"com/example/aeroslice/aeroslice/SrsDefaults", "ofEveryProperty", "()Ljava/lang/String;"⟩ : MethodName)
abbrev mn12 : MethodName := (⟨"java/util/ImmutableCollections$MapN", "isEmpty", "()Z"⟩ : MethodName)
abbrev mn13 : MethodName := (⟨"java/lang/String", "equals", "(Ljava/lang/Object;)Z"⟩ : MethodName)
abbrev mn14 : MethodName := (⟨"java/lang/StringUTF16", "toBytes", "([CII)[B"⟩ : MethodName)
abbrev mn15 : MethodName := (⟨"java/lang/StringUTF16", "newBytesFor", "(I)[B"⟩ : MethodName)
abbrev mn16 : MethodName := (⟨"java/lang/StringUTF16", "newBytesLength", "(I)I"⟩ : MethodName)
abbrev mn17 : MethodName := (⟨"java/lang/StringUTF16", "putChar", "([BII)V"⟩ : MethodName)
abbrev mn18 : MethodName := (⟨"java/lang/StringUTF16", "getChar", "([BI)C"⟩ : MethodName)
abbrev mn19 : MethodName := (⟨"java/lang/String", "valueOf", "(C)Ljava/lang/String;"⟩ : MethodName)
abbrev mn20 : MethodName := (⟨"java/lang/StringLatin1", "canEncode", "(C)Z"⟩ : MethodName)
abbrev mn21 : MethodName := (⟨"java/lang/StringUTF16", "toBytes", "(C)[B"⟩ : MethodName)
abbrev mn22 : MethodName := (⟨"java/lang/String", "<init>", "([BB)V"⟩ : MethodName)
abbrev mn23 : MethodName := (⟨"java/lang/StringLatin1", "toBytes", "(C)[B"⟩ : MethodName)
theorem own_backC {l : Launch} {R : Room} {p : Program} {e : Env} {below : List Frame} {s Z : State} {args a0 : Array Value} {EL : List (String × Nat)} {h : Heap} {vm0 : Vm} {y : MethodName} {bytes : ByteArray} {maxL : Nat} {ret : Option FieldType} {rm : Room} {len W : Nat} {as' : Array Value} {Q : Option Value → Heap → List Loc → Prop}
    (hM : MetFree l y (head1 [Jvm.Cond.code y bytes maxL ret] rm) (fun a U => a = as' ∧ Z.Warmed39 U.vm ∧ U.heap = h ∧ CHv Z EL U.vm h) (fun _ _ _ _ _ => True) (fun _ U o U' => ∃ v L, o = .returned v ∧ Q v U'.heap L ∧ ReturnedEndW U o U' L rm.cells rm.slots))
    (hZ : Z.Warmed39 vm0) (wc : (Jvm.Cond.code y bytes maxL ret).before a0 Z = true) (wz : (Jvm.Cond.initialized y.cls).before a0 Z = true) (hf : rm.frames + 1 ≤ R.frames) (hl : W + (maxL + 11) + rm.locals ≤ R.locals) (hEL : EW Z a0 EL) (H : CHv Z EL vm0 h) :
    BackS l R p e below (s.setVm vm0) args y len W (fun A a => a = as' ∧ A.U.heap = h ∧ A.cells + rm.cells ≤ R.cells ∧ A.slots + rm.slots ≤ R.slots)
      (fun A _ v B => ∃ L, Q v B.U.heap L ∧ B.locs = A.locs ++ L ∧ B.cells = A.cells + rm.cells ∧ B.slots = A.slots + rm.slots) := by
  refine BackS.of_freeW (bytes := bytes) (maxL := maxL) (ret := ret) (E := fun _ _ o t L k n => (k = rm.cells ∧ n = rm.slots) ∧ ∃ v, o = .returned v ∧ Q v t.heap L) hM hf hl ?_ ?_ ?_ ?_ ?_
  · intro m meth c A a Y hp
    have hU : Z.Warmed39 A.U.vm := wtrans (s := s.setVm vm0) hZ Y.warmed
    refine ⟨?_, mv hU wc, mv hU wz, hp.2.2.1, hp.2.2.2⟩
    show (Jvm.Cond.and _ .tt).before a A.U = true
    rw [Cond.before_and, mv hU wc]; rfl
  · intro m meth c A a g mk Y hp
    exact ⟨hp.1, wtrans (s := s.setVm vm0) hZ Y.warmed, hp.2.1, (CHv.at Y hZ hEL H).1⟩
  · intros; trivial
  · rintro _ _ _ _ ⟨v, L, h1, h2, h3⟩
    exact ⟨L, _, _, h3, ⟨rfl, rfl⟩, v, h1, h2⟩
  · rintro m meth c A a g mk v t L k n Y hp - - ⟨⟨rfl, rfl⟩, v', e3, e4⟩
    cases e3
    exact ⟨L, e4, rfl, rfl, rfl⟩
theorem own_and3 (x : Int32) : (x &&& (3 : Int32)) = (0 : Int32) ∨ (x &&& (3 : Int32)) = (1 : Int32) ∨ (x &&& (3 : Int32)) = (2 : Int32) ∨ (x &&& (3 : Int32)) = (3 : Int32) := by
  have e1 := c_mask x 3 2 (by decide) (by decide)
  generalize (x &&& (3 : Int32)) = r at *
  have hd : r.toInt = 0 ∨ r.toInt = 1 ∨ r.toInt = 2 ∨ r.toInt = 3 := by omega
  rcases hd with h | h | h | h
  · exact Or.inl (Int32.toInt_inj.mp (h.trans (by decide)))
  · exact Or.inr (Or.inl (Int32.toInt_inj.mp (h.trans (by decide))))
  · exact Or.inr (Or.inr (Or.inl (Int32.toInt_inj.mp (h.trans (by decide)))))
  · exact Or.inr (Or.inr (Or.inr (Int32.toInt_inj.mp (h.trans (by decide)))))
theorem own_rechar {z : Int32} (h : (255 : Int32) < nar .char z) : (255 : Int32) < (nar .char (((((((nar .char z) >>> ((0 : Int32) &&& 31)).toInt8.toInt32).toInt8.toInt32 &&& (255 : Int32)) <<< ((0 : Int32) &&& 31)) ||| ((((((nar .char z) >>> ((8 : Int32) &&& 31)).toInt8.toInt32).toInt8.toInt32) &&& (255 : Int32)) <<< ((8 : Int32) &&& 31))).toUInt32.toUInt16.toUInt32.toInt32)) := by
  have hz := c_i2c z
  have hz0 : nar .char z = z.toUInt32.toUInt16.toUInt32.toInt32 := rfl
  rw [← hz0] at hz
  generalize nar .char z = x at *
  have e0 := c_ishr x 0 0 (by decide)
  have e8 := c_ishr x 8 8 (by decide)
  generalize x >>> ((0 : Int32) &&& 31) = x0 at *
  generalize x >>> ((8 : Int32) &&& 31) = x8 at *
  have a1 := c_i2b x0; have a2 := c_i2b x0.toInt8.toInt32; have a3 := c_mask x0.toInt8.toInt32.toInt8.toInt32 255 8 (by decide) (by decide)
  have b1 := c_i2b x8; have b2 := c_i2b x8.toInt8.toInt32; have b3 := c_mask x8.toInt8.toInt32.toInt8.toInt32 255 8 (by decide) (by decide)
  generalize x0.toInt8.toInt32.toInt8.toInt32 &&& (255 : Int32) = y0 at *
  generalize x8.toInt8.toInt32.toInt8.toInt32 &&& (255 : Int32) = y8 at *
  have s0 := c_ishl y0 0 0 (by decide); have s8 := c_ishl y8 8 8 (by decide)
  have r0 := rng32 (y0 <<< ((0 : Int32) &&& 31)); have r8 := rng32 (y8 <<< ((8 : Int32) &&& 31))
  generalize y0 <<< ((0 : Int32) &&& 31) = w0 at *
  generalize y8 <<< ((8 : Int32) &&& 31) = w8 at *
  have oo := c_or' w0 w8 8 (by decide) 256 (by decide)
  have t1 : w0.toInt = x.toInt % 256 := by omega
  have t2 : w8.toInt = x.toInt / 256 * 256 := by omega
  have o2 := oo (by omega) (by omega) (by omega)
  have ro := rng32 (w0 ||| w8)
  have fin := c_i2c (w0 ||| w8)
  have hq : nar .char ((w0 ||| w8).toUInt32.toUInt16.toUInt32.toInt32) = (w0 ||| w8).toUInt32.toUInt16.toUInt32.toInt32.toUInt32.toUInt16.toUInt32.toInt32 := rfl
  have fin2 := c_i2c ((w0 ||| w8).toUInt32.toUInt16.toUInt32.toInt32)
  rw [hq, Int32.lt_iff_toInt_lt]
  rw [Int32.lt_iff_toInt_lt] at h
  omega
theorem wd0 {a0 : Array Value} {Z : State} (hw : ∀ d ∈ tables_1, d.before a0 Z = true) : (Jvm.Cond.constant "com/example/aeroslice/aeroslice/SrsDefaultsOfPinLaw" (16 : Nat) (65535 : Int32)).before a0 Z = true := hw _ (List.mem_of_getElem? (i := 0) rfl)
theorem wd1 {a0 : Array Value} {Z : State} (hw : ∀ d ∈ tables_1, d.before a0 Z = true) : (Jvm.Cond.methodLink "com/example/aeroslice/aeroslice/SrsDefaultsOfPinLaw" (17 : Nat) ({ cls := "com/example/aeroslice/aeroslice/SrsDefaultsOfPinLaw", name := "draw", desc := "(ICCC)Ljava/lang/String;" } : Jvm.MethodName)).before a0 Z = true := hw _ (List.mem_of_getElem? (i := 1) rfl)
theorem wd2 {a0 : Array Value} {Z : State} (hw : ∀ d ∈ tables_1, d.before a0 Z = true) : (Jvm.Cond.static ({ cls := "com/example/aeroslice/aeroslice/SrsDefaultsOfPinLaw", name := "draw", desc := "(ICCC)Ljava/lang/String;" } : Jvm.MethodName)).before a0 Z = true := hw _ (List.mem_of_getElem? (i := 2) rfl)
theorem wd3 {a0 : Array Value} {Z : State} (hw : ∀ d ∈ tables_1, d.before a0 Z = true) : (Jvm.Cond.initialized "com/example/aeroslice/aeroslice/SrsDefaultsOfPinLaw").before a0 Z = true := hw _ (List.mem_of_getElem? (i := 3) rfl)
theorem wd4 {a0 : Array Value} {Z : State} (hw : ∀ d ∈ tables_1, d.before a0 Z = true) : (Jvm.Cond.code ({ cls := "com/example/aeroslice/aeroslice/SrsDefaultsOfPinLaw", name := "draw", desc := "(ICCC)Ljava/lang/String;" } : Jvm.MethodName) method_2_code (4 : Nat) (Option.some (Jvm.ClassFile.FieldType.object "java/lang/String"))).before a0 Z = true := hw _ (List.mem_of_getElem? (i := 4) rfl)
theorem wd5 {a0 : Array Value} {Z : State} (hw : ∀ d ∈ tables_1, d.before a0 Z = true) : (Jvm.Cond.classLink "com/example/aeroslice/aeroslice/SrsDefaultsOfPinLaw" (7 : Nat) "java/lang/String").before a0 Z = true := hw _ (List.mem_of_getElem? (i := 5) rfl)
theorem wd6 {a0 : Array Value} {Z : State} (hw : ∀ d ∈ tables_1, d.before a0 Z = true) : (Jvm.Cond.instantiable "java/lang/String" (4 : Nat)).before a0 Z = true := hw _ (List.mem_of_getElem? (i := 6) rfl)
theorem wd7 {a0 : Array Value} {Z : State} (hw : ∀ d ∈ tables_1, d.before a0 Z = true) : (Jvm.Cond.initialized "java/lang/String").before a0 Z = true := hw _ (List.mem_of_getElem? (i := 7) rfl)
theorem wd8 {a0 : Array Value} {Z : State} (hw : ∀ d ∈ tables_1, d.before a0 Z = true) : (Jvm.Cond.arrayClass Jvm.ClassFile.FieldType.char).before a0 Z = true := hw _ (List.mem_of_getElem? (i := 8) rfl)
theorem wd9 {a0 : Array Value} {Z : State} (hw : ∀ d ∈ tables_1, d.before a0 Z = true) : (Jvm.Cond.methodLink "com/example/aeroslice/aeroslice/SrsDefaultsOfPinLaw" (9 : Nat) ({ cls := "java/lang/String", name := "<init>", desc := "([C)V" } : Jvm.MethodName)).before a0 Z = true := hw _ (List.mem_of_getElem? (i := 9) rfl)
theorem wd10 {a0 : Array Value} {Z : State} (hw : ∀ d ∈ tables_1, d.before a0 Z = true) : (Jvm.Cond.instanceMethod ({ cls := "java/lang/String", name := "<init>", desc := "([C)V" } : Jvm.MethodName)).before a0 Z = true := hw _ (List.mem_of_getElem? (i := 10) rfl)
theorem wd11 {a0 : Array Value} {Z : State} (hw : ∀ d ∈ tables_1, d.before a0 Z = true) : (Jvm.Cond.code ({ cls := "java/lang/String", name := "<init>", desc := "([C)V" } : Jvm.MethodName) jdk_42_method_3_code (2 : Nat) (Option.none : Option Jvm.ClassFile.FieldType)).before a0 Z = true := hw _ (List.mem_of_getElem? (i := 11) rfl)
theorem wd12 {a0 : Array Value} {Z : State} (hw : ∀ d ∈ tables_1, d.before a0 Z = true) : (Jvm.Cond.methodLink "java/lang/String" (27 : Nat) ({ cls := "java/lang/String", name := "<init>", desc := "([CIILjava/lang/Void;)V" } : Jvm.MethodName)).before a0 Z = true := hw _ (List.mem_of_getElem? (i := 12) rfl)
theorem wd13 {a0 : Array Value} {Z : State} (hw : ∀ d ∈ tables_1, d.before a0 Z = true) : (Jvm.Cond.instanceMethod ({ cls := "java/lang/String", name := "<init>", desc := "([CIILjava/lang/Void;)V" } : Jvm.MethodName)).before a0 Z = true := hw _ (List.mem_of_getElem? (i := 13) rfl)
theorem wd15 {a0 : Array Value} {Z : State} (hw : ∀ d ∈ tables_1, d.before a0 Z = true) : (Jvm.Cond.code ({ cls := "java/lang/String", name := "<init>", desc := "([CIILjava/lang/Void;)V" } : Jvm.MethodName) jdk_42_method_149_code (6 : Nat) (Option.none : Option Jvm.ClassFile.FieldType)).before a0 Z = true := hw _ (List.mem_of_getElem? (i := 15) rfl)
theorem wd16 {a0 : Array Value} {Z : State} (hw : ∀ d ∈ tables_1, d.before a0 Z = true) : (Jvm.Cond.methodLink "java/lang/String" (1 : Nat) ({ cls := "java/lang/Object", name := "<init>", desc := "()V" } : Jvm.MethodName)).before a0 Z = true := hw _ (List.mem_of_getElem? (i := 16) rfl)
theorem wd17 {a0 : Array Value} {Z : State} (hw : ∀ d ∈ tables_1, d.before a0 Z = true) : (Jvm.Cond.instanceMethod ({ cls := "java/lang/Object", name := "<init>", desc := "()V" } : Jvm.MethodName)).before a0 Z = true := hw _ (List.mem_of_getElem? (i := 17) rfl)
theorem wd18 {a0 : Array Value} {Z : State} (hw : ∀ d ∈ tables_1, d.before a0 Z = true) : (Jvm.Cond.code ({ cls := "java/lang/Object", name := "<init>", desc := "()V" } : Jvm.MethodName) object_method_1_code (1 : Nat) (Option.none : Option Jvm.ClassFile.FieldType)).before a0 Z = true := hw _ (List.mem_of_getElem? (i := 18) rfl)
theorem wd19 {a0 : Array Value} {Z : State} (hw : ∀ d ∈ tables_1, d.before a0 Z = true) : (Jvm.Cond.fieldLink "java/lang/String" (38 : Nat) "java/lang/String" "COMPACT_STRINGS" "Z").before a0 Z = true := hw _ (List.mem_of_getElem? (i := 19) rfl)
theorem wd20 {a0 : Array Value} {Z : State} (hw : ∀ d ∈ tables_1, d.before a0 Z = true) : (Jvm.Cond.methodLink "java/lang/String" (177 : Nat) ({ cls := "java/lang/StringUTF16", name := "compress", desc := "([CII)[B" } : Jvm.MethodName)).before a0 Z = true := hw _ (List.mem_of_getElem? (i := 20) rfl)
theorem wd21 {a0 : Array Value} {Z : State} (hw : ∀ d ∈ tables_1, d.before a0 Z = true) : (Jvm.Cond.static ({ cls := "java/lang/StringUTF16", name := "compress", desc := "([CII)[B" } : Jvm.MethodName)).before a0 Z = true := hw _ (List.mem_of_getElem? (i := 21) rfl)
theorem wd22 {a0 : Array Value} {Z : State} (hw : ∀ d ∈ tables_1, d.before a0 Z = true) : (Jvm.Cond.initialized "java/lang/StringUTF16").before a0 Z = true := hw _ (List.mem_of_getElem? (i := 22) rfl)
theorem wd23 {a0 : Array Value} {Z : State} (hw : ∀ d ∈ tables_1, d.before a0 Z = true) : (Jvm.Cond.code ({ cls := "java/lang/StringUTF16", name := "compress", desc := "([CII)[B" } : Jvm.MethodName) jdk_52_method_16_code (6 : Nat) (Option.some (Jvm.ClassFile.FieldType.array Jvm.ClassFile.FieldType.byte))).before a0 Z = true := hw _ (List.mem_of_getElem? (i := 23) rfl)
theorem wd24 {a0 : Array Value} {Z : State} (hw : ∀ d ∈ tables_1, d.before a0 Z = true) : (Jvm.Cond.arrayClass Jvm.ClassFile.FieldType.byte).before a0 Z = true := hw _ (List.mem_of_getElem? (i := 24) rfl)
theorem wd25 {a0 : Array Value} {Z : State} (hw : ∀ d ∈ tables_1, d.before a0 Z = true) : (Jvm.Cond.methodLink "java/lang/StringUTF16" (115 : Nat) ({ cls := "java/lang/StringUTF16", name := "compress", desc := "([CI[BII)I" } : Jvm.MethodName)).before a0 Z = true := hw _ (List.mem_of_getElem? (i := 25) rfl)
theorem wd26 {a0 : Array Value} {Z : State} (hw : ∀ d ∈ tables_1, d.before a0 Z = true) : (Jvm.Cond.static ({ cls := "java/lang/StringUTF16", name := "compress", desc := "([CI[BII)I" } : Jvm.MethodName)).before a0 Z = true := hw _ (List.mem_of_getElem? (i := 26) rfl)
theorem wd27 {a0 : Array Value} {Z : State} (hw : ∀ d ∈ tables_1, d.before a0 Z = true) : (Jvm.Cond.code ({ cls := "java/lang/StringUTF16", name := "compress", desc := "([CI[BII)I" } : Jvm.MethodName) jdk_52_method_21_code (7 : Nat) (Option.some Jvm.ClassFile.FieldType.int)).before a0 Z = true := hw _ (List.mem_of_getElem? (i := 27) rfl)
theorem wd28 {a0 : Array Value} {Z : State} (hw : ∀ d ∈ tables_1, d.before a0 Z = true) : (Jvm.Cond.methodLink "java/lang/String" (47 : Nat) ({ cls := "java/lang/StringUTF16", name := "coderFromArrayLen", desc := "([BI)B" } : Jvm.MethodName)).before a0 Z = true := hw _ (List.mem_of_getElem? (i := 28) rfl)
theorem wd29 {a0 : Array Value} {Z : State} (hw : ∀ d ∈ tables_1, d.before a0 Z = true) : (Jvm.Cond.static ({ cls := "java/lang/StringUTF16", name := "coderFromArrayLen", desc := "([BI)B" } : Jvm.MethodName)).before a0 Z = true := hw _ (List.mem_of_getElem? (i := 29) rfl)
theorem wd30 {a0 : Array Value} {Z : State} (hw : ∀ d ∈ tables_1, d.before a0 Z = true) : (Jvm.Cond.code ({ cls := "java/lang/StringUTF16", name := "coderFromArrayLen", desc := "([BI)B" } : Jvm.MethodName) jdk_52_method_15_code (2 : Nat) (Option.some Jvm.ClassFile.FieldType.byte)).before a0 Z = true := hw _ (List.mem_of_getElem? (i := 30) rfl)
theorem wd31 {a0 : Array Value} {Z : State} (hw : ∀ d ∈ tables_1, d.before a0 Z = true) : (Jvm.Cond.fieldLink "java/lang/String" (15 : Nat) "java/lang/String" "coder" "B").before a0 Z = true := hw _ (List.mem_of_getElem? (i := 31) rfl)
theorem wd32 {a0 : Array Value} {Z : State} (hw : ∀ d ∈ tables_1, d.before a0 Z = true) : (Jvm.Cond.laysFinal "java/lang/String" "java/lang/String" "coder" "B").before a0 Z = true := hw _ (List.mem_of_getElem? (i := 32) rfl)
theorem wd33 {a0 : Array Value} {Z : State} (hw : ∀ d ∈ tables_1, d.before a0 Z = true) : (Jvm.Cond.fieldLink "java/lang/String" (9 : Nat) "java/lang/String" "value" "[B").before a0 Z = true := hw _ (List.mem_of_getElem? (i := 33) rfl)
theorem wd34 {a0 : Array Value} {Z : State} (hw : ∀ d ∈ tables_1, d.before a0 Z = true) : (Jvm.Cond.laysFinal "java/lang/String" "java/lang/String" "value" "[B").before a0 Z = true := hw _ (List.mem_of_getElem? (i := 34) rfl)
theorem wd35 {a0 : Array Value} {Z : State} (hw : ∀ d ∈ tables_1, d.before a0 Z = true) : (Jvm.Cond.methodLink "com/example/aeroslice/aeroslice/SrsDefaultsOfPinLaw" (23 : Nat) ({ cls := "com/example/aeroslice/aeroslice/SrsDefaults", name := "of", desc := "(Ljava/lang/String;)Lcom/example/aeroslice/aeroslice/SrsDefaults;" } : Jvm.MethodName)).before a0 Z = true := hw _ (List.mem_of_getElem? (i := 35) rfl)
theorem wd36 {a0 : Array Value} {Z : State} (hw : ∀ d ∈ tables_1, d.before a0 Z = true) : (Jvm.Cond.static ({ cls := "com/example/aeroslice/aeroslice/SrsDefaults", name := "of", desc := "(Ljava/lang/String;)Lcom/example/aeroslice/aeroslice/SrsDefaults;" } : Jvm.MethodName)).before a0 Z = true := hw _ (List.mem_of_getElem? (i := 36) rfl)
theorem wd37 {a0 : Array Value} {Z : State} (hw : ∀ d ∈ tables_1, d.before a0 Z = true) : (Jvm.Cond.initialized "com/example/aeroslice/aeroslice/SrsDefaults").before a0 Z = true := hw _ (List.mem_of_getElem? (i := 37) rfl)
theorem wd38 {a0 : Array Value} {Z : State} (hw : ∀ d ∈ tables_1, d.before a0 Z = true) : (Jvm.Cond.code ({ cls := "com/example/aeroslice/aeroslice/SrsDefaults", name := "of", desc := "(Ljava/lang/String;)Lcom/example/aeroslice/aeroslice/SrsDefaults;" } : Jvm.MethodName) prog_22_method_2_code (1 : Nat) (Option.some (Jvm.ClassFile.FieldType.object "com/example/aeroslice/aeroslice/SrsDefaults"))).before a0 Z = true := hw _ (List.mem_of_getElem? (i := 38) rfl)
theorem wd39 {a0 : Array Value} {Z : State} (hw : ∀ d ∈ tables_1, d.before a0 Z = true) : (Jvm.Cond.classLink "com/example/aeroslice/aeroslice/SrsDefaults" (8 : Nat) "com/example/aeroslice/aeroslice/SrsDefaults").before a0 Z = true := hw _ (List.mem_of_getElem? (i := 39) rfl)
theorem wd40 {a0 : Array Value} {Z : State} (hw : ∀ d ∈ tables_1, d.before a0 Z = true) : (Jvm.Cond.instantiable "com/example/aeroslice/aeroslice/SrsDefaults" (2 : Nat)).before a0 Z = true := hw _ (List.mem_of_getElem? (i := 40) rfl)
theorem wd41 {a0 : Array Value} {Z : State} (hw : ∀ d ∈ tables_1, d.before a0 Z = true) : (Jvm.Cond.methodLink "com/example/aeroslice/aeroslice/SrsDefaults" (21 : Nat) ({ cls := "java/util/Map", name := "of", desc := "()Ljava/util/Map;" } : Jvm.MethodName)).before a0 Z = true := hw _ (List.mem_of_getElem? (i := 41) rfl)
theorem wd42 {a0 : Array Value} {Z : State} (hw : ∀ d ∈ tables_1, d.before a0 Z = true) : (Jvm.Cond.static ({ cls := "java/util/Map", name := "of", desc := "()Ljava/util/Map;" } : Jvm.MethodName)).before a0 Z = true := hw _ (List.mem_of_getElem? (i := 42) rfl)
theorem wd43 {a0 : Array Value} {Z : State} (hw : ∀ d ∈ tables_1, d.before a0 Z = true) : (Jvm.Cond.initialized "java/util/Map").before a0 Z = true := hw _ (List.mem_of_getElem? (i := 43) rfl)
theorem wd44 {a0 : Array Value} {Z : State} (hw : ∀ d ∈ tables_1, d.before a0 Z = true) : (Jvm.Cond.code ({ cls := "java/util/Map", name := "of", desc := "()Ljava/util/Map;" } : Jvm.MethodName) jdk_72_method_26_code (0 : Nat) (Option.some (Jvm.ClassFile.FieldType.object "java/util/Map"))).before a0 Z = true := hw _ (List.mem_of_getElem? (i := 44) rfl)
theorem wd45 {a0 : Array Value} {Z : State} (hw : ∀ d ∈ tables_1, d.before a0 Z = true) : (Jvm.Cond.fieldLink "java/util/Map" (81 : Nat) "java/util/ImmutableCollections" "EMPTY_MAP" "Ljava/util/ImmutableCollections$MapN;").before a0 Z = true := hw _ (List.mem_of_getElem? (i := 45) rfl)
theorem wd47 {a0 : Array Value} {Z : State} (hw : ∀ d ∈ tables_1, d.before a0 Z = true) : (Jvm.Cond.methodLink "com/example/aeroslice/aeroslice/SrsDefaults" (27 : Nat) ({ cls := "com/example/aeroslice/aeroslice/SrsDefaults", name := "<init>", desc := "(Ljava/lang/String;Ljava/util/Map;)V" } : Jvm.MethodName)).before a0 Z = true := hw _ (List.mem_of_getElem? (i := 47) rfl)
theorem wd48 {a0 : Array Value} {Z : State} (hw : ∀ d ∈ tables_1, d.before a0 Z = true) : (Jvm.Cond.instanceMethod ({ cls := "com/example/aeroslice/aeroslice/SrsDefaults", name := "<init>", desc := "(Ljava/lang/String;Ljava/util/Map;)V" } : Jvm.MethodName)).before a0 Z = true := hw _ (List.mem_of_getElem? (i := 48) rfl)
theorem wd49 {a0 : Array Value} {Z : State} (hw : ∀ d ∈ tables_1, d.before a0 Z = true) : (Jvm.Cond.code ({ cls := "com/example/aeroslice/aeroslice/SrsDefaults", name := "<init>", desc := "(Ljava/lang/String;Ljava/util/Map;)V" } : Jvm.MethodName) prog_22_method_1_code (3 : Nat) (Option.none : Option Jvm.ClassFile.FieldType)).before a0 Z = true := hw _ (List.mem_of_getElem? (i := 49) rfl)
theorem wd50 {a0 : Array Value} {Z : State} (hw : ∀ d ∈ tables_1, d.before a0 Z = true) : (Jvm.Cond.methodLink "com/example/aeroslice/aeroslice/SrsDefaults" (1 : Nat) ({ cls := "java/lang/Object", name := "<init>", desc := "()V" } : Jvm.MethodName)).before a0 Z = true := hw _ (List.mem_of_getElem? (i := 50) rfl)
theorem wd51 {a0 : Array Value} {Z : State} (hw : ∀ d ∈ tables_1, d.before a0 Z = true) : (Jvm.Cond.fieldLink "com/example/aeroslice/aeroslice/SrsDefaults" (7 : Nat) "com/example/aeroslice/aeroslice/SrsDefaults" "common" "Ljava/lang/String;").before a0 Z = true := hw _ (List.mem_of_getElem? (i := 51) rfl)
theorem wd52 {a0 : Array Value} {Z : State} (hw : ∀ d ∈ tables_1, d.before a0 Z = true) : (Jvm.Cond.laysFinal "com/example/aeroslice/aeroslice/SrsDefaults" "com/example/aeroslice/aeroslice/SrsDefaults" "common" "Ljava/lang/String;").before a0 Z = true := hw _ (List.mem_of_getElem? (i := 52) rfl)
theorem wd53 {a0 : Array Value} {Z : State} (hw : ∀ d ∈ tables_1, d.before a0 Z = true) : (Jvm.Cond.fieldLink "com/example/aeroslice/aeroslice/SrsDefaults" (13 : Nat) "com/example/aeroslice/aeroslice/SrsDefaults" "byProperty" "Ljava/util/Map;").before a0 Z = true := hw _ (List.mem_of_getElem? (i := 53) rfl)
theorem wd54 {a0 : Array Value} {Z : State} (hw : ∀ d ∈ tables_1, d.before a0 Z = true) : (Jvm.Cond.laysFinal "com/example/aeroslice/aeroslice/SrsDefaults" "com/example/aeroslice/aeroslice/SrsDefaults" "byProperty" "Ljava/util/Map;").before a0 Z = true := hw _ (List.mem_of_getElem? (i := 54) rfl)
theorem wd55 {a0 : Array Value} {Z : State} (hw : ∀ d ∈ tables_1, d.before a0 Z = true) : (Jvm.Cond.methodLink "com/example/aeroslice/aeroslice/SrsDefaultsOfPinLaw" (29 : Nat) ({ cls := "com/example/aeroslice/aeroslice/SrsDefaults", name := "ofEveryProperty", desc := "()Ljava/lang/String;" } : Jvm.MethodName)).before a0 Z = true := hw _ (List.mem_of_getElem? (i := 55) rfl)
theorem wd56 {a0 : Array Value} {Z : State} (hw : ∀ d ∈ tables_1, d.before a0 Z = true) : (Jvm.Cond.declares ({ cls := "com/example/aeroslice/aeroslice/SrsDefaults", name := "ofEveryProperty", desc := "()Ljava/lang/String;" } : Jvm.MethodName)).before a0 Z = true := hw _ (List.mem_of_getElem? (i := 56) rfl)
theorem wd57 {a0 : Array Value} {Z : State} (hw : ∀ d ∈ tables_1, d.before a0 Z = true) : (Jvm.Cond.instanceMethod ({ cls := "com/example/aeroslice/aeroslice/SrsDefaults", name := "ofEveryProperty", desc := "()Ljava/lang/String;" } : Jvm.MethodName)).before a0 Z = true := hw _ (List.mem_of_getElem? (i := 57) rfl)
theorem wd58 {a0 : Array Value} {Z : State} (hw : ∀ d ∈ tables_1, d.before a0 Z = true) : (Jvm.Cond.selects "com/example/aeroslice/aeroslice/SrsDefaults" ({ cls := "com/example/aeroslice/aeroslice/SrsDefaults", name := "ofEveryProperty", desc := "()Ljava/lang/String;" } : Jvm.MethodName) ({ cls := "com/example/aeroslice/aeroslice/SrsDefaults", name := "ofEveryProperty", desc := "()Ljava/lang/String;" } : Jvm.MethodName)).before a0 Z = true := hw _ (List.mem_of_getElem? (i := 58) rfl)
theorem wd59 {a0 : Array Value} {Z : State} (hw : ∀ d ∈ tables_1, d.before a0 Z = true) : (Jvm.Cond.code ({ cls := "com/example/aeroslice/aeroslice/SrsDefaults", name := "ofEveryProperty", desc := "()Ljava/lang/String;" } : Jvm.MethodName) prog_22_method_3_code (1 : Nat) (Option.some (Jvm.ClassFile.FieldType.object "java/lang/String"))).before a0 Z = true := hw _ (List.mem_of_getElem? (i := 59) rfl)
theorem wd60 {a0 : Array Value} {Z : State} (hw : ∀ d ∈ tables_1, d.before a0 Z = true) : (Jvm.Cond.methodLink "com/example/aeroslice/aeroslice/SrsDefaults" (30 : Nat) ({ cls := "java/util/Map", name := "isEmpty", desc := "()Z" } : Jvm.MethodName)).before a0 Z = true := hw _ (List.mem_of_getElem? (i := 60) rfl)
theorem wd61 {a0 : Array Value} {Z : State} (hw : ∀ d ∈ tables_1, d.before a0 Z = true) : (Jvm.Cond.declares ({ cls := "java/util/Map", name := "isEmpty", desc := "()Z" } : Jvm.MethodName)).before a0 Z = true := hw _ (List.mem_of_getElem? (i := 61) rfl)
theorem wd62 {a0 : Array Value} {Z : State} (hw : ∀ d ∈ tables_1, d.before a0 Z = true) : (Jvm.Cond.interfaceMethod "java/util/Map" "java/util/Map" "isEmpty" "()Z").before a0 Z = true := hw _ (List.mem_of_getElem? (i := 62) rfl)
theorem wd63 {a0 : Array Value} {Z : State} (hw : ∀ d ∈ tables_1, d.before a0 Z = true) : (Jvm.Cond.selects "java/util/ImmutableCollections$MapN" ({ cls := "java/util/Map", name := "isEmpty", desc := "()Z" } : Jvm.MethodName) ({ cls := "java/util/ImmutableCollections$MapN", name := "isEmpty", desc := "()Z" } : Jvm.MethodName)).before a0 Z = true := hw _ (List.mem_of_getElem? (i := 63) rfl)
theorem wd64 {a0 : Array Value} {Z : State} (hw : ∀ d ∈ tables_1, d.before a0 Z = true) : (Jvm.Cond.instanceMethod ({ cls := "java/util/ImmutableCollections$MapN", name := "isEmpty", desc := "()Z" } : Jvm.MethodName)).before a0 Z = true := hw _ (List.mem_of_getElem? (i := 64) rfl)
theorem wd65 {a0 : Array Value} {Z : State} (hw : ∀ d ∈ tables_1, d.before a0 Z = true) : (Jvm.Cond.publicMethod ({ cls := "java/util/ImmutableCollections$MapN", name := "isEmpty", desc := "()Z" } : Jvm.MethodName)).before a0 Z = true := hw _ (List.mem_of_getElem? (i := 65) rfl)
theorem wd66 {a0 : Array Value} {Z : State} (hw : ∀ d ∈ tables_1, d.before a0 Z = true) : (Jvm.Cond.unhidden "java/util/ImmutableCollections$MapN" "isEmpty" "()Z").before a0 Z = true := hw _ (List.mem_of_getElem? (i := 66) rfl)
theorem wd67 {a0 : Array Value} {Z : State} (hw : ∀ d ∈ tables_1, d.before a0 Z = true) : (Jvm.Cond.castable "java/util/ImmutableCollections$MapN" "java/util/Map").before a0 Z = true := hw _ (List.mem_of_getElem? (i := 67) rfl)
theorem wd68 {a0 : Array Value} {Z : State} (hw : ∀ d ∈ tables_1, d.before a0 Z = true) : (Jvm.Cond.initialized "java/util/ImmutableCollections$MapN").before a0 Z = true := hw _ (List.mem_of_getElem? (i := 68) rfl)
theorem wd69 {a0 : Array Value} {Z : State} (hw : ∀ d ∈ tables_1, d.before a0 Z = true) : (Jvm.Cond.code ({ cls := "java/util/ImmutableCollections$MapN", name := "isEmpty", desc := "()Z" } : Jvm.MethodName) jdk_2605_method_7_code (1 : Nat) (Option.some Jvm.ClassFile.FieldType.boolean)).before a0 Z = true := hw _ (List.mem_of_getElem? (i := 69) rfl)
theorem wd70 {a0 : Array Value} {Z : State} (hw : ∀ d ∈ tables_1, d.before a0 Z = true) : (Jvm.Cond.fieldLink "java/util/ImmutableCollections$MapN" (16 : Nat) "java/util/ImmutableCollections$MapN" "size" "I").before a0 Z = true := hw _ (List.mem_of_getElem? (i := 70) rfl)
theorem wd72 {a0 : Array Value} {Z : State} (hw : ∀ d ∈ tables_1, d.before a0 Z = true) : (Jvm.Cond.methodLink "com/example/aeroslice/aeroslice/SrsDefaultsOfPinLaw" (33 : Nat) ({ cls := "java/lang/String", name := "equals", desc := "(Ljava/lang/Object;)Z" } : Jvm.MethodName)).before a0 Z = true := hw _ (List.mem_of_getElem? (i := 72) rfl)
theorem wd73 {a0 : Array Value} {Z : State} (hw : ∀ d ∈ tables_1, d.before a0 Z = true) : (Jvm.Cond.declares ({ cls := "java/lang/String", name := "equals", desc := "(Ljava/lang/Object;)Z" } : Jvm.MethodName)).before a0 Z = true := hw _ (List.mem_of_getElem? (i := 73) rfl)
theorem wd74 {a0 : Array Value} {Z : State} (hw : ∀ d ∈ tables_1, d.before a0 Z = true) : (Jvm.Cond.instanceMethod ({ cls := "java/lang/String", name := "equals", desc := "(Ljava/lang/Object;)Z" } : Jvm.MethodName)).before a0 Z = true := hw _ (List.mem_of_getElem? (i := 74) rfl)
theorem wd75 {a0 : Array Value} {Z : State} (hw : ∀ d ∈ tables_1, d.before a0 Z = true) : (Jvm.Cond.selects "java/lang/String" ({ cls := "java/lang/String", name := "equals", desc := "(Ljava/lang/Object;)Z" } : Jvm.MethodName) ({ cls := "java/lang/String", name := "equals", desc := "(Ljava/lang/Object;)Z" } : Jvm.MethodName)).before a0 Z = true := hw _ (List.mem_of_getElem? (i := 75) rfl)
theorem wd76 {a0 : Array Value} {Z : State} (hw : ∀ d ∈ tables_1, d.before a0 Z = true) : (Jvm.Cond.code ({ cls := "java/lang/String", name := "equals", desc := "(Ljava/lang/Object;)Z" } : Jvm.MethodName) jdk_42_method_66_code (3 : Nat) (Option.some Jvm.ClassFile.FieldType.boolean)).before a0 Z = true := hw _ (List.mem_of_getElem? (i := 76) rfl)
theorem wd77 {a0 : Array Value} {Z : State} (hw : ∀ d ∈ tables_1, d.before a0 Z = true) : (Jvm.Cond.fieldLink "com/example/aeroslice/aeroslice/SrsDefaults" (17 : Nat) "com/example/aeroslice/aeroslice/SrsDefaults" "NONE" "Lcom/example/aeroslice/aeroslice/SrsDefaults;").before a0 Z = true := hw _ (List.mem_of_getElem? (i := 77) rfl)
theorem wd78 {a0 : Array Value} {Z : State} (hw : ∀ d ∈ tables_1, d.before a0 Z = true) : (Jvm.Cond.laysStatic "com/example/aeroslice/aeroslice/SrsDefaults" "NONE" "Lcom/example/aeroslice/aeroslice/SrsDefaults;").before a0 Z = true := hw _ (List.mem_of_getElem? (i := 78) rfl)
theorem wd79 {a0 : Array Value} {Z : State} (hw : ∀ d ∈ tables_1, d.before a0 Z = true) : (Jvm.Cond.methodLink "java/lang/StringUTF16" (119 : Nat) ({ cls := "java/lang/StringUTF16", name := "toBytes", desc := "([CII)[B" } : Jvm.MethodName)).before a0 Z = true := hw _ (List.mem_of_getElem? (i := 79) rfl)
theorem wd80 {a0 : Array Value} {Z : State} (hw : ∀ d ∈ tables_1, d.before a0 Z = true) : (Jvm.Cond.static ({ cls := "java/lang/StringUTF16", name := "toBytes", desc := "([CII)[B" } : Jvm.MethodName)).before a0 Z = true := hw _ (List.mem_of_getElem? (i := 80) rfl)
theorem wd81 {a0 : Array Value} {Z : State} (hw : ∀ d ∈ tables_1, d.before a0 Z = true) : (Jvm.Cond.code ({ cls := "java/lang/StringUTF16", name := "toBytes", desc := "([CII)[B" } : Jvm.MethodName) jdk_52_method_14_code (5 : Nat) (Option.some (Jvm.ClassFile.FieldType.array Jvm.ClassFile.FieldType.byte))).before a0 Z = true := hw _ (List.mem_of_getElem? (i := 81) rfl)
theorem wd82 {a0 : Array Value} {Z : State} (hw : ∀ d ∈ tables_1, d.before a0 Z = true) : (Jvm.Cond.methodLink "java/lang/StringUTF16" (107 : Nat) ({ cls := "java/lang/StringUTF16", name := "newBytesFor", desc := "(I)[B" } : Jvm.MethodName)).before a0 Z = true := hw _ (List.mem_of_getElem? (i := 82) rfl)
theorem wd83 {a0 : Array Value} {Z : State} (hw : ∀ d ∈ tables_1, d.before a0 Z = true) : (Jvm.Cond.static ({ cls := "java/lang/StringUTF16", name := "newBytesFor", desc := "(I)[B" } : Jvm.MethodName)).before a0 Z = true := hw _ (List.mem_of_getElem? (i := 83) rfl)
theorem wd84 {a0 : Array Value} {Z : State} (hw : ∀ d ∈ tables_1, d.before a0 Z = true) : (Jvm.Cond.code ({ cls := "java/lang/StringUTF16", name := "newBytesFor", desc := "(I)[B" } : Jvm.MethodName) jdk_52_method_2_code (1 : Nat) (Option.some (Jvm.ClassFile.FieldType.array Jvm.ClassFile.FieldType.byte))).before a0 Z = true := hw _ (List.mem_of_getElem? (i := 84) rfl)
theorem wd85 {a0 : Array Value} {Z : State} (hw : ∀ d ∈ tables_1, d.before a0 Z = true) : (Jvm.Cond.methodLink "java/lang/StringUTF16" (11 : Nat) ({ cls := "java/lang/StringUTF16", name := "newBytesLength", desc := "(I)I" } : Jvm.MethodName)).before a0 Z = true := hw _ (List.mem_of_getElem? (i := 85) rfl)
theorem wd86 {a0 : Array Value} {Z : State} (hw : ∀ d ∈ tables_1, d.before a0 Z = true) : (Jvm.Cond.static ({ cls := "java/lang/StringUTF16", name := "newBytesLength", desc := "(I)I" } : Jvm.MethodName)).before a0 Z = true := hw _ (List.mem_of_getElem? (i := 86) rfl)
theorem wd87 {a0 : Array Value} {Z : State} (hw : ∀ d ∈ tables_1, d.before a0 Z = true) : (Jvm.Cond.code ({ cls := "java/lang/StringUTF16", name := "newBytesLength", desc := "(I)I" } : Jvm.MethodName) jdk_52_method_3_code (1 : Nat) (Option.some Jvm.ClassFile.FieldType.int)).before a0 Z = true := hw _ (List.mem_of_getElem? (i := 87) rfl)
theorem wd88 {a0 : Array Value} {Z : State} (hw : ∀ d ∈ tables_1, d.before a0 Z = true) : (Jvm.Cond.constant "java/lang/StringUTF16" (20 : Nat) (1073741823 : Int32)).before a0 Z = true := hw _ (List.mem_of_getElem? (i := 88) rfl)
theorem wd89 {a0 : Array Value} {Z : State} (hw : ∀ d ∈ tables_1, d.before a0 Z = true) : (Jvm.Cond.methodLink "java/lang/StringUTF16" (111 : Nat) ({ cls := "java/lang/StringUTF16", name := "putChar", desc := "([BII)V" } : Jvm.MethodName)).before a0 Z = true := hw _ (List.mem_of_getElem? (i := 89) rfl)
theorem wd90 {a0 : Array Value} {Z : State} (hw : ∀ d ∈ tables_1, d.before a0 Z = true) : (Jvm.Cond.static ({ cls := "java/lang/StringUTF16", name := "putChar", desc := "([BII)V" } : Jvm.MethodName)).before a0 Z = true := hw _ (List.mem_of_getElem? (i := 90) rfl)
theorem wd91 {a0 : Array Value} {Z : State} (hw : ∀ d ∈ tables_1, d.before a0 Z = true) : (Jvm.Cond.code ({ cls := "java/lang/StringUTF16", name := "putChar", desc := "([BII)V" } : Jvm.MethodName) jdk_52_method_4_code (3 : Nat) (Option.none : Option Jvm.ClassFile.FieldType)).before a0 Z = true := hw _ (List.mem_of_getElem? (i := 91) rfl)
theorem wd92 {a0 : Array Value} {Z : State} (hw : ∀ d ∈ tables_1, d.before a0 Z = true) : (Jvm.Cond.fieldLink "java/lang/StringUTF16" (44 : Nat) "java/lang/StringUTF16" "$assertionsDisabled" "Z").before a0 Z = true := hw _ (List.mem_of_getElem? (i := 92) rfl)
theorem wd93 {a0 : Array Value} {Z : State} (hw : ∀ d ∈ tables_1, d.before a0 Z = true) : (Jvm.Cond.fieldLink "java/lang/StringUTF16" (59 : Nat) "java/lang/StringUTF16" "HI_BYTE_SHIFT" "I").before a0 Z = true := hw _ (List.mem_of_getElem? (i := 93) rfl)
theorem wd94 {a0 : Array Value} {Z : State} (hw : ∀ d ∈ tables_1, d.before a0 Z = true) : (Jvm.Cond.fieldLink "java/lang/StringUTF16" (63 : Nat) "java/lang/StringUTF16" "LO_BYTE_SHIFT" "I").before a0 Z = true := hw _ (List.mem_of_getElem? (i := 94) rfl)
theorem wd95 {a0 : Array Value} {Z : State} (hw : ∀ d ∈ tables_1, d.before a0 Z = true) : (Jvm.Cond.methodLink "java/lang/StringUTF16" (71 : Nat) ({ cls := "java/lang/StringUTF16", name := "getChar", desc := "([BI)C" } : Jvm.MethodName)).before a0 Z = true := hw _ (List.mem_of_getElem? (i := 95) rfl)
theorem wd96 {a0 : Array Value} {Z : State} (hw : ∀ d ∈ tables_1, d.before a0 Z = true) : (Jvm.Cond.static ({ cls := "java/lang/StringUTF16", name := "getChar", desc := "([BI)C" } : Jvm.MethodName)).before a0 Z = true := hw _ (List.mem_of_getElem? (i := 96) rfl)
theorem wd97 {a0 : Array Value} {Z : State} (hw : ∀ d ∈ tables_1, d.before a0 Z = true) : (Jvm.Cond.code ({ cls := "java/lang/StringUTF16", name := "getChar", desc := "([BI)C" } : Jvm.MethodName) jdk_52_method_5_code (2 : Nat) (Option.some Jvm.ClassFile.FieldType.char)).before a0 Z = true := hw _ (List.mem_of_getElem? (i := 97) rfl)
theorem wd98 {a0 : Array Value} {Z : State} (hw : ∀ d ∈ tables_1, d.before a0 Z = true) : (Jvm.Cond.methodLink "com/example/aeroslice/aeroslice/SrsDefaultsOfPinLaw" (12 : Nat) ({ cls := "java/lang/String", name := "valueOf", desc := "(C)Ljava/lang/String;" } : Jvm.MethodName)).before a0 Z = true := hw _ (List.mem_of_getElem? (i := 98) rfl)
theorem wd99 {a0 : Array Value} {Z : State} (hw : ∀ d ∈ tables_1, d.before a0 Z = true) : (Jvm.Cond.static ({ cls := "java/lang/String", name := "valueOf", desc := "(C)Ljava/lang/String;" } : Jvm.MethodName)).before a0 Z = true := hw _ (List.mem_of_getElem? (i := 99) rfl)
theorem wd100 {a0 : Array Value} {Z : State} (hw : ∀ d ∈ tables_1, d.before a0 Z = true) : (Jvm.Cond.code ({ cls := "java/lang/String", name := "valueOf", desc := "(C)Ljava/lang/String;" } : Jvm.MethodName) jdk_42_method_139_code (1 : Nat) (Option.some (Jvm.ClassFile.FieldType.object "java/lang/String"))).before a0 Z = true := hw _ (List.mem_of_getElem? (i := 100) rfl)
theorem wd101 {a0 : Array Value} {Z : State} (hw : ∀ d ∈ tables_1, d.before a0 Z = true) : (Jvm.Cond.methodLink "java/lang/String" (1015 : Nat) ({ cls := "java/lang/StringLatin1", name := "canEncode", desc := "(C)Z" } : Jvm.MethodName)).before a0 Z = true := hw _ (List.mem_of_getElem? (i := 101) rfl)
theorem wd102 {a0 : Array Value} {Z : State} (hw : ∀ d ∈ tables_1, d.before a0 Z = true) : (Jvm.Cond.static ({ cls := "java/lang/StringLatin1", name := "canEncode", desc := "(C)Z" } : Jvm.MethodName)).before a0 Z = true := hw _ (List.mem_of_getElem? (i := 102) rfl)
theorem wd103 {a0 : Array Value} {Z : State} (hw : ∀ d ∈ tables_1, d.before a0 Z = true) : (Jvm.Cond.initialized "java/lang/StringLatin1").before a0 Z = true := hw _ (List.mem_of_getElem? (i := 103) rfl)
theorem wd104 {a0 : Array Value} {Z : State} (hw : ∀ d ∈ tables_1, d.before a0 Z = true) : (Jvm.Cond.code ({ cls := "java/lang/StringLatin1", name := "canEncode", desc := "(C)Z" } : Jvm.MethodName) jdk_43_method_3_code (1 : Nat) (Option.some Jvm.ClassFile.FieldType.boolean)).before a0 Z = true := hw _ (List.mem_of_getElem? (i := 104) rfl)
theorem wd105 {a0 : Array Value} {Z : State} (hw : ∀ d ∈ tables_1, d.before a0 Z = true) : (Jvm.Cond.classLink "java/lang/String" (10 : Nat) "java/lang/String").before a0 Z = true := hw _ (List.mem_of_getElem? (i := 105) rfl)
theorem wd106 {a0 : Array Value} {Z : State} (hw : ∀ d ∈ tables_1, d.before a0 Z = true) : (Jvm.Cond.methodLink "java/lang/String" (1021 : Nat) ({ cls := "java/lang/StringUTF16", name := "toBytes", desc := "(C)[B" } : Jvm.MethodName)).before a0 Z = true := hw _ (List.mem_of_getElem? (i := 106) rfl)
theorem wd107 {a0 : Array Value} {Z : State} (hw : ∀ d ∈ tables_1, d.before a0 Z = true) : (Jvm.Cond.static ({ cls := "java/lang/StringUTF16", name := "toBytes", desc := "(C)[B" } : Jvm.MethodName)).before a0 Z = true := hw _ (List.mem_of_getElem? (i := 107) rfl)
theorem wd108 {a0 : Array Value} {Z : State} (hw : ∀ d ∈ tables_1, d.before a0 Z = true) : (Jvm.Cond.code ({ cls := "java/lang/StringUTF16", name := "toBytes", desc := "(C)[B" } : Jvm.MethodName) jdk_52_method_24_code (2 : Nat) (Option.some (Jvm.ClassFile.FieldType.array Jvm.ClassFile.FieldType.byte))).before a0 Z = true := hw _ (List.mem_of_getElem? (i := 108) rfl)
theorem wd109 {a0 : Array Value} {Z : State} (hw : ∀ d ∈ tables_1, d.before a0 Z = true) : (Jvm.Cond.methodLink "java/lang/String" (209 : Nat) ({ cls := "java/lang/String", name := "<init>", desc := "([BB)V" } : Jvm.MethodName)).before a0 Z = true := hw _ (List.mem_of_getElem? (i := 109) rfl)
theorem wd110 {a0 : Array Value} {Z : State} (hw : ∀ d ∈ tables_1, d.before a0 Z = true) : (Jvm.Cond.instanceMethod ({ cls := "java/lang/String", name := "<init>", desc := "([BB)V" } : Jvm.MethodName)).before a0 Z = true := hw _ (List.mem_of_getElem? (i := 110) rfl)
theorem wd111 {a0 : Array Value} {Z : State} (hw : ∀ d ∈ tables_1, d.before a0 Z = true) : (Jvm.Cond.code ({ cls := "java/lang/String", name := "<init>", desc := "([BB)V" } : Jvm.MethodName) jdk_42_method_151_code (3 : Nat) (Option.none : Option Jvm.ClassFile.FieldType)).before a0 Z = true := hw _ (List.mem_of_getElem? (i := 111) rfl)
theorem wd112 {a0 : Array Value} {Z : State} (hw : ∀ d ∈ tables_1, d.before a0 Z = true) : (Jvm.Cond.stringLink "java/lang/String" (7 : Nat) "").before a0 Z = true := hw _ (List.mem_of_getElem? (i := 112) rfl)
theorem wd113 {a0 : Array Value} {Z : State} (hw : ∀ d ∈ tables_1, d.before a0 Z = true) : (Jvm.Cond.soleField "java/lang/String" "value").before a0 Z = true := hw _ (List.mem_of_getElem? (i := 113) rfl)
theorem wd114 {a0 : Array Value} {Z : State} (hw : ∀ d ∈ tables_1, d.before a0 Z = true) : (Jvm.Cond.soleField "java/lang/String" "coder").before a0 Z = true := hw _ (List.mem_of_getElem? (i := 114) rfl)
theorem wd115 {a0 : Array Value} {Z : State} (hw : ∀ d ∈ tables_1, d.before a0 Z = true) : (Jvm.Cond.methodLink "java/lang/String" (1018 : Nat) ({ cls := "java/lang/StringLatin1", name := "toBytes", desc := "(C)[B" } : Jvm.MethodName)).before a0 Z = true := hw _ (List.mem_of_getElem? (i := 115) rfl)
theorem wd116 {a0 : Array Value} {Z : State} (hw : ∀ d ∈ tables_1, d.before a0 Z = true) : (Jvm.Cond.static ({ cls := "java/lang/StringLatin1", name := "toBytes", desc := "(C)[B" } : Jvm.MethodName)).before a0 Z = true := hw _ (List.mem_of_getElem? (i := 116) rfl)
theorem wd117 {a0 : Array Value} {Z : State} (hw : ∀ d ∈ tables_1, d.before a0 Z = true) : (Jvm.Cond.code ({ cls := "java/lang/StringLatin1", name := "toBytes", desc := "(C)[B" } : Jvm.MethodName) jdk_43_method_46_code (1 : Nat) (Option.some (Jvm.ClassFile.FieldType.array Jvm.ClassFile.FieldType.byte))).before a0 Z = true := hw _ (List.mem_of_getElem? (i := 117) rfl)
def own_EL : List (String × Nat) := [("java/lang/String", 7)]
theorem own_EW {a0 : Array Value} {Z : State} (hw : ∀ d ∈ tables_1, d.before a0 Z = true) : EW Z a0 own_EL := EW.cons (wd112 hw) (by decide) EW.nil
theorem d1_0 : decode method_2_code 0 = .ok (.iload_n 0, 1) := by decide +kernel
theorem d1_1 : decode method_2_code 1 = .ok (.ifCond .ne 14, 3) := by decide +kernel
theorem d1_4 : decode method_2_code 4 = .ok (.new 7, 3) := by decide +kernel
theorem d1_7 : decode method_2_code 7 = .ok (.dup, 1) := by decide +kernel
theorem d1_8 : decode method_2_code 8 = .ok (.iconst 0, 1) := by decide +kernel
theorem d1_9 : decode method_2_code 9 = .ok (.newarray .char, 2) := by decide +kernel
theorem d1_11 : decode method_2_code 11 = .ok (.invokespecial 9, 3) := by decide +kernel
theorem d2_0 : decode jdk_42_method_3_code 0 = .ok (.aload_n 0, 1) := by decide +kernel
theorem d2_1 : decode jdk_42_method_3_code 1 = .ok (.aload_n 1, 1) := by decide +kernel
theorem d2_2 : decode jdk_42_method_3_code 2 = .ok (.iconst 0, 1) := by decide +kernel
theorem d2_3 : decode jdk_42_method_3_code 3 = .ok (.aload_n 1, 1) := by decide +kernel
theorem d2_4 : decode jdk_42_method_3_code 4 = .ok (.arraylength, 1) := by decide +kernel
theorem d2_5 : decode jdk_42_method_3_code 5 = .ok (.aconst_null, 1) := by decide +kernel
theorem d2_6 : decode jdk_42_method_3_code 6 = .ok (.invokespecial 27, 3) := by decide +kernel
theorem d3_0 : decode jdk_42_method_149_code 0 = .ok (.aload_n 0, 1) := by decide +kernel
theorem d3_1 : decode jdk_42_method_149_code 1 = .ok (.invokespecial 1, 3) := by decide +kernel
theorem d3_4 : decode jdk_42_method_149_code 4 = .ok (.iload_n 3, 1) := by decide +kernel
theorem d3_5 : decode jdk_42_method_149_code 5 = .ok (.ifCond .ne 22, 3) := by decide +kernel
theorem d3_8 : decode jdk_42_method_149_code 8 = .ok (.aload_n 0, 1) := by decide +kernel
theorem d3_9 : decode jdk_42_method_149_code 9 = .ok (.ldc 7, 2) := by decide +kernel
theorem own_wS {a0 : Array Value} {Z : State} (hw : ∀ d ∈ tables_1, d.before a0 Z = true) : ∀ a ∈ Bundle.stringAtoms, a.before a0 Z = true := by
  intro d hd
  simp only [Bundle.stringAtoms, List.mem_cons, List.not_mem_nil, or_false] at hd
  rcases hd with rfl | rfl | rfl | rfl | rfl | rfl | rfl
  · exact (wd7 hw)
  · exact (wd6 hw)
  · exact (wd24 hw)
  · exact (wd34 hw)
  · exact (wd32 hw)
  · exact (wd113 hw)
  · exact (wd114 hw)
theorem d3_11 : decode jdk_42_method_149_code 11 = .ok (.getfield 9, 3) := by decide +kernel
theorem d3_14 : decode jdk_42_method_149_code 14 = .ok (.putfield 9, 3) := by decide +kernel
theorem d3_17 : decode jdk_42_method_149_code 17 = .ok (.aload_n 0, 1) := by decide +kernel
theorem d3_18 : decode jdk_42_method_149_code 18 = .ok (.ldc 7, 2) := by decide +kernel
theorem d3_20 : decode jdk_42_method_149_code 20 = .ok (.getfield 15, 3) := by decide +kernel
theorem d3_23 : decode jdk_42_method_149_code 23 = .ok (.putfield 15, 3) := by decide +kernel
theorem d3_26 : decode jdk_42_method_149_code 26 = .ok (.return_, 1) := by decide +kernel
theorem ef_3_0 (m : MethodId) (x0 : Addr) (x1 : Addr) : entryFrame m #[(.ref x0), (.ref x1), (.int (0 : Int32)), (.int (0 : Int32)), .null] 6 = mkF m 0 #[.val (.ref x0), .val (.ref x1), .val (.int (0 : Int32)), .val (.int (0 : Int32)), .val .null, .unset] [] := by first | (simp [entryFrame, mkF, argsToLocals, Value.category]; done) | rfl
theorem pn_0 : plainName "java/lang/String" = true := by first | (simp [plainName, overriddenIn]; done) | decide +kernel
def Q_rm3_0 (Z : State) (a1 : Addr) (a2 : Addr) (h0 : Heap) (n0 : Nat) (v : Option Value) (h : Heap) (L : List Loc) : Prop := ∃ bb4 : Addr, v = none ∧ Fr n0 L ∧ Keep h0 h [a1] ∧ Fld Z h a1 "java/lang/String" "value" "[B" (.ref bb4) ∧ Fld Z h a1 "java/lang/String" "coder" "B" (.int (0 : Int32))
set_option maxRecDepth 65536 in
set_option maxHeartbeats 40000000 in
theorem rm3_0 (l : Launch) (Z : State) (a0 : Array Value) (hw : ∀ d ∈ tables_1, d.before a0 Z = true) (ws : List Jvm.Cond) (a1 : Addr) (a2 : Addr) (h0 : Heap) (n0 : Nat) (OL0 : Old Z n0 h0) (pr1 : Exa Z h0 a1 "java/lang/String") (pr2 : Fld Z h0 a1 "java/lang/String" "value" "[B" .null) (pr3 : n0 ≤ a1) (pr4 : Fld Z h0 a1 "java/lang/String" "coder" "B" (.int (0 : Int32))) :
    MetFree l mn3 (head1 (Jvm.Cond.code mn3 jdk_42_method_149_code 6 none :: ws) ({ frames := 1, cells := 2, slots := 4, locals := 12 } : Room)) (fun a U => a = #[(.ref a1), (.ref a2), (.int (0 : Int32)), (.int (0 : Int32)), .null] ∧ Z.Warmed39 U.vm ∧ U.heap = h0 ∧ CHv Z own_EL U.vm h0) (fun _ _ _ _ _ => True) (fun _ U o U' => ∃ v L, o = .returned v ∧ Q_rm3_0 Z a1 a2 h0 n0 v U'.heap L ∧ ReturnedEndW U o U' L ({ frames := 1, cells := 2, slots := 4, locals := 12 } : Room).cells ({ frames := 1, cells := 2, slots := 4, locals := 12 } : Room).slots) := by
  refine MetFree.of_bodySF (plainFor_of_name pn_0) hisR ?_
  intro p e s m args below meth c s₁ Bd hml0 hP hK
  obtain ⟨rfl, hZ, hh, H0⟩ := hP
  have hx := Bd.exec
  have hby := Bd.bytes
  have hml : c.maxLocals = 6 := hml0
  have hown : s.vm.findClass "java/lang/String" = some m.cls := findClass_of_methodNamed Bd.named
  have hnm := (name_of_methodNamed Bd.named Bd.method).1
  have X0 : Stand p l e ({ frames := 1, cells := 2, slots := 4, locals := 12 } : Room) s m #[(.ref a1), (.ref a2), (.int (0 : Int32)), (.int (0 : Int32)), .null] below meth c s₁ [] 0 0 := Stand.of_body Bd
  have e0 : s₁.heap = h0 := by rw [← hh, Bd.state]; rfl
  have N0 := Fr.nil n0
  have pre0 : ∀ t, SS p e below s₁ m 0 #[rv a1, rv a2, iv (0 : Int32), iv (0 : Int32), .val .null, .unset] [] t → Steps p.tables e below (s₁.setTop (entryFrame m #[(.ref a1), (.ref a2), (.int (0 : Int32)), (.int (0 : Int32)), .null] 6)) t := fun t k => castTop (ef_3_0 m a1 a2) k
  obtain ⟨T3, X3, e3, st3⟩ := initO X0 hx hZ hown (wd16 hw) (wd17 hw) (wd18 hw) e0 (g := (mkF m 1 #[rv a1, rv a2, iv (0 : Int32), iv (0 : Int32), .val .null, .unset] [(.ref a1)])) rfl (by rw [hml]; rfl) rfl (hb hby d3_1) (by decide) (W := 0) (by show 2 * 0 + _ ≤ _; exact Nat.le_of_eq rfl) (by decide)
  obtain ⟨b4, T4, h4, k4, bb4, kb4, X4, e4, E4, hS4, hk4, hZ4, hown4, LE4, LC4, LV4, LA4, -, -, -, LL4, -, st4⟩ := ldcCH (s := s) (vm0 := s.vm) X3 hx hZ hown (wd112 hw) (own_wS hw) e3 ((State.WarmedH.refl s).since 0) (Nat.zero_le _) (own_EW hw) (by simp [own_EL]) H0 (vs := []) (z := (0 : Int32)) ⟨by decide, by decide⟩ (by decide) (by decide) (g := (mkF m 9 #[rv a1, rv a2, iv (0 : Int32), iv (0 : Int32), .val .null, .unset] [(.ref a1)])) rfl (hb hby d3_9) (n := 0) (by decide) (by decide) (by decide) (by decide)
  have KK4 : Keep h0 h4 [a1] := (Keep.refl h0 [a1]).ext E4
  have OL4 := OL0.ext E4
  obtain ⟨T5, X5, e5, st5⟩ := getF X4 hx hZ4 hown4 (host := "") (Or.inl (wd33 hw)) Via.refl e4 LV4 (g := (mkF m 11 #[rv a1, rv a2, iv (0 : Int32), iv (0 : Int32), .val .null, .unset] [(.ref b4), (.ref a1)])) rfl rfl (hb hby d3_11)
  have fc6 := (pr1.ext E4)
  have fc7 := (pr2.ext E4)
  obtain ⟨T8, h8, X8, e8, W8, st8⟩ := putF X5 hx hZ4 hown4 (host := "") (Or.inl (wd33 hw)) Via.refl e5 fc7 fc6 (Or.inr ⟨(wd34 hw), rfl, hnm⟩) (wd6 hw) (ty := (.array .byte)) (by decide) rfl rfl (g := (mkF m 14 #[rv a1, rv a2, iv (0 : Int32), iv (0 : Int32), .val .null, .unset] [(.ref bb4), (.ref a1)])) rfl rfl (hb hby d3_14)
  have Fw8 := fc7.same W8
  have KK8 : Keep h0 h8 [a1] := KK4.wr W8 (Or.inl (List.mem_of_getElem? (i := 0) rfl))
  have OL8 := OL4.wr W8 pr3
  have N8 := Fr.snoc X8 N0 pr3
  have fc10 := (LC4.other W8 (Or.inr (slot_ne (Or.inr (wd32 hw)) (Or.inr (wd34 hw)) (by decide) (t := .byte) (t' := (.array .byte)) (by decide) (by decide))))
  obtain ⟨T11, X11, e11, st11⟩ := getF X8 hx hZ4 hown4 (host := "") (Or.inl (wd31 hw)) Via.refl e8 fc10 (g := (mkF m 20 #[rv a1, rv a2, iv (0 : Int32), iv (0 : Int32), .val .null, .unset] [(.ref b4), (.ref a1)])) rfl rfl (hb hby d3_20)
  have fc12 := (fc6.wr W8)
  have fc13 := ((pr4.ext E4).other W8 (Or.inr (slot_ne (Or.inr (wd32 hw)) (Or.inr (wd34 hw)) (by decide) (t := .byte) (t' := (.array .byte)) (by decide) (by decide))))
  obtain ⟨T14, h14, X14, e14, W14, st14⟩ := putFN X11 hx hZ4 hown4 (wd31 hw) Via.refl e11 fc13 fc12 (Or.inr ⟨(wd32 hw), rfl, hnm⟩) (wd6 hw) (ty := .byte) (v' := (.int (0 : Int32))) (by decide) rfl rfl (g := (mkF m 23 #[rv a1, rv a2, iv (0 : Int32), iv (0 : Int32), .val .null, .unset] [(.int (0 : Int32)), (.ref a1)])) rfl rfl (hb hby d3_23)
  have Fw14 := fc13.same W14
  have KK14 : Keep h0 h14 [a1] := KK8.wr W14 (Or.inl (List.mem_of_getElem? (i := 0) rfl))
  have OL14 := OL8.wr W14 pr3
  have N14 := Fr.snoc X14 N8 pr3
  have fc15 := (Fw8.other W14 (Or.inr (slot_ne (Or.inr (wd34 hw)) (Or.inr (wd32 hw)) (by decide) (t := (.array .byte)) (t' := .byte) (by decide) (by decide))))
  obtain ⟨fs, hr, hrun, hended, hRW⟩ := X14.leaveW (s := s) hS4 (by rw [e14]; exact (Nat.le_trans (Nat.le_trans hk4 (Nat.le_of_eq W8.size.symm)) (Nat.le_of_eq W14.size.symm))) (v := none) (fun _ => rfl)
  refine ⟨_, _, pre0 _ ?_, hrun, hended, _, _, rfl, ?_, hRW.1, hRW.2.1, hRW.2.2.1, hRW.2.2.2.mono (by decide) (by decide)⟩
  · show SS p e below s₁ m 0 #[rv a1, rv a2, iv (0 : Int32), iv (0 : Int32), .val .null, .unset] [] _
    refine XS.aloadN X0.here hx rfl (hb hby d3_0) rfl rfl ?_
    show SS p e below s₁ m 1 #[rv a1, rv a2, iv (0 : Int32), iv (0 : Int32), .val .null, .unset] [(.ref a1)] _
    refine st3 _ ?_
    show SS p e below T3 m 4 #[rv a1, rv a2, iv (0 : Int32), iv (0 : Int32), .val .null, .unset] [] _
    refine XS.iloadN X3.here hx rfl (hb hby d3_4) rfl ?_
    show SS p e below T3 m 5 #[rv a1, rv a2, iv (0 : Int32), iv (0 : Int32), .val .null, .unset] [(.int (0 : Int32))] _
    refine XS.ifNo X3.here hx rfl (hb hby d3_5) rfl ((if0 _ _).trans (teq (rfl : (0 : Int32) = (0 : Int32))).2) ?_
    show SS p e below T3 m 8 #[rv a1, rv a2, iv (0 : Int32), iv (0 : Int32), .val .null, .unset] [] _
    refine XS.aloadN X3.here hx rfl (hb hby d3_8) rfl rfl ?_
    refine st4 _ ?_
    show SS p e below T4 m 11 #[rv a1, rv a2, iv (0 : Int32), iv (0 : Int32), .val .null, .unset] [(.ref b4), (.ref a1)] _
    refine st5 _ ?_
    show SS p e below T5 m 14 #[rv a1, rv a2, iv (0 : Int32), iv (0 : Int32), .val .null, .unset] [(.ref bb4), (.ref a1)] _
    refine st8 _ ?_
    show SS p e below T8 m 17 #[rv a1, rv a2, iv (0 : Int32), iv (0 : Int32), .val .null, .unset] [] _
    refine XS.aloadN X8.here hx rfl (hb hby d3_17) rfl rfl ?_
    refine ldcAgain (s := s) (vm0 := T4.vm) X8 hx hZ4 hown4 (wd112 hw) LL4 (g := (mkF m 18 #[rv a1, rv a2, iv (0 : Int32), iv (0 : Int32), .val .null, .unset] [(.ref a1)])) rfl (hb hby d3_18) _ ?_
    show SS p e below T8 m 20 #[rv a1, rv a2, iv (0 : Int32), iv (0 : Int32), .val .null, .unset] [(.ref b4), (.ref a1)] _
    refine st11 _ ?_
    show SS p e below T11 m 23 #[rv a1, rv a2, iv (0 : Int32), iv (0 : Int32), .val .null, .unset] [(.int (0 : Int32)), (.ref a1)] _
    refine st14 _ ?_
    show SS p e below T14 m 26 #[rv a1, rv a2, iv (0 : Int32), iv (0 : Int32), .val .null, .unset] [] _
    exact X14.returnOut hx Bd.returns (hb hby d3_26) hr
  · show Q_rm3_0 Z a1 a2 h0 n0 _ T14.heap _
    rw [e14]
    exact ⟨bb4, rfl, N14, KK14, fc15, Fw14⟩
theorem pd_0 : parseMethodDescriptor "([CIILjava/lang/Void;)V" = some ⟨[(.array .char), .int, .int, (.object "java/lang/Void")], none⟩ := by decide +kernel
theorem d2_9 : decode jdk_42_method_3_code 9 = .ok (.return_, 1) := by decide +kernel
theorem ef_2_1 (m : MethodId) (x0 : Addr) (x1 : Addr) : entryFrame m #[(.ref x0), (.ref x1)] 2 = mkF m 0 #[.val (.ref x0), .val (.ref x1)] [] := by first | (simp [entryFrame, mkF, argsToLocals, Value.category]; done) | rfl
def Q_rm2_0 (Z : State) (a1 : Addr) (a2 : Addr) (k3 : ClassId) (h0 : Heap) (n0 : Nat) (v : Option Value) (h : Heap) (L : List Loc) : Prop := ∃ b5_0 : Addr, v = none ∧ Fr n0 L ∧ Keep h0 h [a1] ∧ Fld Z h a1 "java/lang/String" "value" "[B" (.ref b5_0) ∧ Fld Z h a1 "java/lang/String" "coder" "B" (.int (0 : Int32))
set_option maxRecDepth 65536 in
set_option maxHeartbeats 40000000 in
theorem rm2_0 (l : Launch) (Z : State) (a0 : Array Value) (hw : ∀ d ∈ tables_1, d.before a0 Z = true) (ws : List Jvm.Cond) (a1 : Addr) (a2 : Addr) (k3 : ClassId) (h0 : Heap) (n0 : Nat) (OL0 : Old Z n0 h0) (pr1 : Arv Z h0 a2 k3 .char (0 : Int32) [] (.int (0 : Int32))) (pr2 : Exa Z h0 a1 "java/lang/String") (pr3 : Fld Z h0 a1 "java/lang/String" "value" "[B" .null) (pr4 : n0 ≤ a1) (pr5 : Fld Z h0 a1 "java/lang/String" "coder" "B" (.int (0 : Int32))) :
    MetFree l mn2 (head1 (Jvm.Cond.code mn2 jdk_42_method_3_code 2 none :: ws) ({ frames := 2, cells := 2, slots := 4, locals := 29 } : Room)) (fun a U => a = #[(.ref a1), (.ref a2)] ∧ Z.Warmed39 U.vm ∧ U.heap = h0 ∧ CHv Z own_EL U.vm h0) (fun _ _ _ _ _ => True) (fun _ U o U' => ∃ v L, o = .returned v ∧ Q_rm2_0 Z a1 a2 k3 h0 n0 v U'.heap L ∧ ReturnedEndW U o U' L ({ frames := 2, cells := 2, slots := 4, locals := 29 } : Room).cells ({ frames := 2, cells := 2, slots := 4, locals := 29 } : Room).slots) := by
  refine MetFree.of_bodySF (plainFor_of_name pn_0) hisR ?_
  intro p e s m args below meth c s₁ Bd hml0 hP hK
  obtain ⟨rfl, hZ, hh, H0⟩ := hP
  have hx := Bd.exec
  have hby := Bd.bytes
  have hml : c.maxLocals = 2 := hml0
  have hown : s.vm.findClass "java/lang/String" = some m.cls := findClass_of_methodNamed Bd.named
  have hnm := (name_of_methodNamed Bd.named Bd.method).1
  have X0 : Stand p l e ({ frames := 2, cells := 2, slots := 4, locals := 29 } : Room) s m #[(.ref a1), (.ref a2)] below meth c s₁ [] 0 0 := Stand.of_body Bd
  have e0 : s₁.heap = h0 := by rw [← hh, Bd.state]; rfl
  have N0 := Fr.nil n0
  have pre0 : ∀ t, SS p e below s₁ m 0 #[rv a1, rv a2] [] t → Steps p.tables e below (s₁.setTop (entryFrame m #[(.ref a1), (.ref a2)] 2)) t := fun t k => castTop (ef_2_1 m a1 a2) k
  obtain ⟨cl4, Ar4, -, Sz4, Nn4, -, -⟩ := id pr1
  obtain ⟨_, _, ⟨T5, L5, k5, n5⟩, -, Xa5, hSi5, hgr5, ⟨Lc5, hQ5, l5, y5, z5⟩, st5⟩ := X0.specialBackS hx (y := mn3) rfl hown (mvT hZ (wd12 hw)) (mvT hZ (wd13 hw)) (mvT hZ (wd15 hw)) (by decide) (own_backC (s := s) (vm0 := s.vm) (W := 0) (rm3_0 l Z a0 hw [] a1 a2 h0 n0 OL0 pr2 pr3 pr4 pr5) hZ (wd15 hw) (wd7 hw) (by decide) (by decide) (own_EW hw) H0) (g := (mkF m 6 #[rv a1, rv a2] [.null, (.int (0 : Int32)), (.int (0 : Int32)), (.ref a2), (.ref a1)])) rfl (by rw [hml]; rfl) (Steps.refl _) (a := a1) (argsL := [(.ref a2), (.int (0 : Int32)), (.int (0 : Int32)), .null]) (rest := []) (lenOf pd_0 rfl) rfl (by show 2 * 0 + _ ≤ _; exact Nat.le_of_eq rfl) (hb hby d2_6) (fun _ _ => ⟨rfl, e0, (by decide : 0 + 2 ≤ _), (by decide : 0 + 4 ≤ _)⟩)
  dsimp only [Pt.U, Pt.locs, Pt.cells, Pt.slots] at Xa5 l5 y5 z5 st5 hQ5 hSi5 hgr5
  subst l5 y5 z5
  obtain ⟨X5, hS5, hZ5, hown5⟩ := rebS (s := s) (vm0 := s.vm) ((State.WarmedH.refl s).since 0) (n1 := s₁.heap.size) (by rw [e0]; exact (Nat.zero_le _)) Xa5 hSi5 hgr5 hZ hown
  obtain ⟨b5_0, rfl, Nq5, K5, u5_0, u5_1⟩ := hQ5
  have KK5 : Keep h0 T5.heap [a1] := (Keep.refl h0 [a1]).trans K5 (allS (Or.inl (List.mem_of_getElem? (i := 0) rfl)) all0)
  have OL5 := OL0.keep K5 (allS pr4 all0)
  have N5 := Fr.app N0 Nq5
  obtain ⟨fs, hr, hrun, hended, hRW⟩ := X5.leaveW (s := s) hS5 (by exact (Nat.le_refl _)) (v := none) (fun _ => rfl)
  refine ⟨_, _, pre0 _ ?_, hrun, hended, _, _, rfl, ?_, hRW.1, hRW.2.1, hRW.2.2.1, hRW.2.2.2.mono (by decide) (by decide)⟩
  · show SS p e below s₁ m 0 #[rv a1, rv a2] [] _
    refine XS.aloadN X0.here hx rfl (hb hby d2_0) rfl rfl ?_
    refine XS.aloadN X0.here hx rfl (hb hby d2_1) rfl rfl ?_
    refine XS.iconst X0.here hx rfl (hb hby d2_2) ?_
    refine XS.aloadN X0.here hx rfl (hb hby d2_3) rfl rfl ?_
    show SS p e below s₁ m 4 #[rv a1, rv a2] [(.ref a2), (.int (0 : Int32)), (.ref a2), (.ref a1)] _
    refine X0.arraylength hx (by rw [e0]; exact Ar4.1) (State.isArrayOf_alike hZ.alike Ar4.2.1) (g := (mkF m 4 #[rv a1, rv a2] [(.ref a2), (.int (0 : Int32)), (.ref a2), (.ref a1)])) rfl rfl (hb hby d2_4) _ ?_
    rw [len_of Sz4 Nn4]
    show SS p e below s₁ m 5 #[rv a1, rv a2] [(.int (0 : Int32)), (.int (0 : Int32)), (.ref a2), (.ref a1)] _
    refine XS.aconstNull X0.here hx rfl (hb hby d2_5) ?_
    show SS p e below s₁ m 6 #[rv a1, rv a2] [.null, (.int (0 : Int32)), (.int (0 : Int32)), (.ref a2), (.ref a1)] _
    refine st5.trans ?_
    show SS p e below T5 m 9 #[rv a1, rv a2] [] _
    exact X5.returnOut hx Bd.returns (hb hby d2_9) hr
  · show Q_rm2_0 Z a1 a2 k3 h0 n0 _ T5.heap _
    exact ⟨b5_0, rfl, N5, KK5, u5_0, u5_1⟩
theorem pd_1 : parseMethodDescriptor "([C)V" = some ⟨[(.array .char)], none⟩ := by decide +kernel
theorem d1_14 : decode method_2_code 14 = .ok (.areturn, 1) := by decide +kernel
theorem ef_1_2 (m : MethodId) (x1 : Int32) (x2 : Int32) (x3 : Int32) : entryFrame m #[(.int (0 : Int32)), (.int x1), (.int x2), (.int x3)] 4 = mkF m 0 #[.val (.int (0 : Int32)), .val (.int x1), .val (.int x2), .val (.int x3)] [] := by first | (simp [entryFrame, mkF, argsToLocals, Value.category]; done) | rfl
theorem pn_1 : plainName "com/example/aeroslice/aeroslice/SrsDefaultsOfPinLaw" = true := by first | (simp [plainName, overriddenIn]; done) | decide +kernel
def Q_rm1_0 (Z : State) (p1 : Int32) (p2 : Int32) (p3 : Int32) (h0 : Heap) (n0 : Nat) (v : Option Value) (h : Heap) (L : List Loc) : Prop := ∃ b4 : Addr, ∃ b6_0 : Addr, v = some (.ref b4) ∧ Fr n0 L ∧ Keep h0 h [] ∧ h0.size ≤ b4 ∧ Exa Z h b4 "java/lang/String" ∧ Fld Z h b4 "java/lang/String" "coder" "B" (.int (0 : Int32)) ∧ Fld Z h b4 "java/lang/String" "value" "[B" (.ref b6_0)
set_option maxRecDepth 65536 in
set_option maxHeartbeats 40000000 in
theorem rm1_0 (l : Launch) (Z : State) (a0 : Array Value) (hw : ∀ d ∈ tables_1, d.before a0 Z = true) (ws : List Jvm.Cond) (p1 : Int32) (p2 : Int32) (p3 : Int32) (h0 : Heap) (n0 : Nat) (OL0 : Old Z n0 h0)  :
    MetFree l mn1 (head1 (Jvm.Cond.code mn1 method_2_code 4 (some (.object "java/lang/String")) :: ws) ({ frames := 3, cells := 4, slots := 8, locals := 43 } : Room)) (fun a U => a = #[(.int (0 : Int32)), (.int p1), (.int p2), (.int p3)] ∧ Z.Warmed39 U.vm ∧ U.heap = h0 ∧ CHv Z own_EL U.vm h0) (fun _ _ _ _ _ => True) (fun _ U o U' => ∃ v L, o = .returned v ∧ Q_rm1_0 Z p1 p2 p3 h0 n0 v U'.heap L ∧ ReturnedEndW U o U' L ({ frames := 3, cells := 4, slots := 8, locals := 43 } : Room).cells ({ frames := 3, cells := 4, slots := 8, locals := 43 } : Room).slots) := by
  refine MetFree.of_bodySF (plainFor_of_name pn_1) hisR ?_
  intro p e s m args below meth c s₁ Bd hml0 hP hK
  obtain ⟨rfl, hZ, hh, H0⟩ := hP
  have hx := Bd.exec
  have hby := Bd.bytes
  have hml : c.maxLocals = 4 := hml0
  have hown : s.vm.findClass "com/example/aeroslice/aeroslice/SrsDefaultsOfPinLaw" = some m.cls := findClass_of_methodNamed Bd.named
  have hnm := (name_of_methodNamed Bd.named Bd.method).1
  have X0 : Stand p l e ({ frames := 3, cells := 4, slots := 8, locals := 43 } : Room) s m #[(.int (0 : Int32)), (.int p1), (.int p2), (.int p3)] below meth c s₁ [] 0 0 := Stand.of_body Bd
  have e0 : s₁.heap = h0 := by rw [← hh, Bd.state]; rfl
  have N0 := Fr.nil n0
  have pre0 : ∀ t, SS p e below s₁ m 0 #[iv (0 : Int32), iv p1, iv p2, iv p3] [] t → Steps p.tables e below (s₁.setTop (entryFrame m #[(.int (0 : Int32)), (.int p1), (.int p2), (.int p3)] 4)) t := fun t k => castTop (ef_1_2 m p1 p2 p3) k
  obtain ⟨T4, h4, X4, e4, E4, A4, D4, -, st4⟩ := newO X0 hx hZ hown (wd5 hw) (wd6 hw) (wd7 hw) e0 (g := (mkF m 4 #[iv (0 : Int32), iv p1, iv p2, iv p3] [])) rfl (hb hby d1_4) (by decide) (by decide)
  obtain ⟨b4, g4⟩ : ∃ z, z = h0.size := ⟨_, rfl⟩
  rw [← g4] at A4 D4 st4
  have g_b4 : n0 ≤ b4 := (Nat.le_trans (Nat.le_trans (Nat.le_of_eq OL0.1.symm) OL0.2.1) (Nat.le_of_eq g4.symm))
  have sz_b4 : h0.size ≤ b4 := (Nat.le_trans (Keep.refl h0 []).1 (Nat.le_of_eq g4.symm))
  have KK4 : Keep h0 h4 [] := (Keep.refl h0 []).ext E4
  have OL4 := OL0.ext E4
  have F_coder_b4 : Fld Z h4 b4 "java/lang/String" "coder" "B" (.int (0 : Int32)) := D4 (Or.inr (wd32 hw)) (ty := .byte) (by decide)
  have F_value_b4 : Fld Z h4 b4 "java/lang/String" "value" "[B" .null := D4 (Or.inr (wd34 hw)) (ty := (.array .byte)) (by decide)
  obtain ⟨T5, h5, k5, X5, e5, E5, A5, st5⟩ := newP (aty := .char) X4 hx hZ (wd8 hw) e4 (g := (mkF m 9 #[iv (0 : Int32), iv p1, iv p2, iv p3] [(.int (0 : Int32)), (.ref b4), (.ref b4)])) rfl (hb hby d1_9) rfl (by decide) (cap := 0) (by decide) (by decide) (by decide) (by decide)
  obtain ⟨b5, g5⟩ : ∃ z, z = h4.size := ⟨_, rfl⟩
  rw [← g5] at A5 st5
  have V5 : Arv Z h5 b5 k5 .char (0 : Int32) [] (.int (0 : Int32)) := (Arv.new A5 (by decide)).pad (pad_rep [] (.int (0 : Int32)) 0)
  have g_b5 : n0 ≤ b5 := (Nat.le_trans (Nat.le_trans (Nat.le_of_eq OL4.1.symm) OL4.2.1) (Nat.le_of_eq g5.symm))
  have sz_b5 : h0.size ≤ b5 := (Nat.le_trans KK4.1 (Nat.le_of_eq g5.symm))
  have KK5 : Keep h0 h5 [] := KK4.ext E5
  have OL5 := OL4.ext E5
  have fc7 := (A4.ext E5)
  have fc8 := (F_value_b4.ext E5)
  have fc9 := (F_coder_b4.ext E5)
  obtain ⟨_, _, ⟨T6, L6, k6, n6⟩, -, Xa6, hSi6, hgr6, ⟨Lc6, hQ6, l6, y6, z6⟩, st6⟩ := X5.specialBackS hx (y := mn2) rfl hown (mvT hZ (wd9 hw)) (mvT hZ (wd10 hw)) (mvT hZ (wd11 hw)) (by decide) (own_backC (s := s) (vm0 := s.vm) (W := 1) (rm2_0 l Z a0 hw [] b4 b5 k5 h5 n0 OL5 V5 fc7 fc8 g_b4 fc9) hZ (wd11 hw) (wd7 hw) (by decide) (by decide) (own_EW hw) ((H0.ext E4).ext E5)) (g := (mkF m 11 #[iv (0 : Int32), iv p1, iv p2, iv p3] [(.ref b5), (.ref b4), (.ref b4)])) rfl (by rw [hml]; rfl) (Steps.refl _) (a := b4) (argsL := [(.ref b5)]) (rest := [(.ref b4)]) (lenOf pd_1 rfl) rfl (by show 2 * 0 + _ ≤ _; exact Nat.le_of_eq rfl) (hb hby d1_11) (fun _ _ => ⟨rfl, e5, (by decide : 2 + 2 ≤ _), (by decide : 4 + 4 ≤ _)⟩)
  dsimp only [Pt.U, Pt.locs, Pt.cells, Pt.slots] at Xa6 l6 y6 z6 st6 hQ6 hSi6 hgr6
  subst l6 y6 z6
  obtain ⟨X6, hS6, hZ6, hown6⟩ := rebS (s := s) (vm0 := s.vm) ((State.WarmedH.refl s).since 0) (n1 := T5.heap.size) (by rw [e5]; exact (Nat.le_trans (Nat.le_trans (Nat.zero_le _) E4.1) E5.1)) Xa6 hSi6 hgr6 hZ hown
  obtain ⟨b6_0, rfl, Nq6, K6, u6_0, u6_1⟩ := hQ6
  have KK6 : Keep h0 T6.heap [] := KK5.trans K6 (allS (Or.inr sz_b4) all0)
  have OL6 := OL5.keep K6 (allS g_b4 all0)
  have N6 := Fr.app N0 Nq6
  have fc10 := (fc7.keep K6)
  obtain ⟨fs, hr, hrun, hended, hRW⟩ := X6.leaveW (s := s) hS6 (by exact (Nat.le_refl _)) (v := some (.ref b4)) (fun h => by rw [Bd.returns] at h; cases h)
  refine ⟨_, _, pre0 _ ?_, hrun, hended, _, _, rfl, ?_, hRW.1, hRW.2.1, hRW.2.2.1, hRW.2.2.2.mono (by decide) (by decide)⟩
  · show SS p e below s₁ m 0 #[iv (0 : Int32), iv p1, iv p2, iv p3] [] _
    refine XS.iloadN X0.here hx rfl (hb hby d1_0) rfl ?_
    show SS p e below s₁ m 1 #[iv (0 : Int32), iv p1, iv p2, iv p3] [(.int (0 : Int32))] _
    refine XS.ifNo X0.here hx rfl (hb hby d1_1) rfl ((if0 _ _).trans (teq (rfl : (0 : Int32) = (0 : Int32))).2) ?_
    show SS p e below s₁ m 4 #[iv (0 : Int32), iv p1, iv p2, iv p3] [] _
    refine st4 _ ?_
    show SS p e below T4 m 7 #[iv (0 : Int32), iv p1, iv p2, iv p3] [(.ref b4)] _
    refine XS.dup X4.here hx rfl (hb hby d1_7) rfl rfl ?_
    refine XS.iconst X4.here hx rfl (hb hby d1_8) ?_
    show SS p e below T4 m 9 #[iv (0 : Int32), iv p1, iv p2, iv p3] [(.int (0 : Int32)), (.ref b4), (.ref b4)] _
    refine st5 _ ?_
    show SS p e below T5 m 11 #[iv (0 : Int32), iv p1, iv p2, iv p3] [(.ref b5), (.ref b4), (.ref b4)] _
    refine st6.trans ?_
    show SS p e below T6 m 14 #[iv (0 : Int32), iv p1, iv p2, iv p3] [(.ref b4)] _
    jvm_step X6.here [X6.here.top, hx, (hb hby d1_14), X6.method', Bd.returns, Value.isRef, FieldType.isReference]
    first | (intro acts; rw [hr _ acts rfl rfl rfl]) | rw [hr _ _ rfl rfl rfl]
    exact Steps.refl _
  · show Q_rm1_0 Z p1 p2 p3 h0 n0 _ T6.heap _
    exact ⟨b4, b6_0, rfl, N6, KK6, sz_b4, fc10, u6_1, u6_0⟩
theorem pd_2 : parseMethodDescriptor "(ICCC)Ljava/lang/String;" = some ⟨[.int, .char, .char, .char], some (.object "java/lang/String")⟩ := by decide +kernel
theorem d8_0 : decode prog_22_method_2_code 0 = .ok (.aload_n 0, 1) := by decide +kernel
theorem d8_1 : decode prog_22_method_2_code 1 = .ok (.ifnonnull 9, 3) := by decide +kernel
theorem d8_10 : decode prog_22_method_2_code 10 = .ok (.new 8, 3) := by decide +kernel
theorem d8_13 : decode prog_22_method_2_code 13 = .ok (.dup, 1) := by decide +kernel
theorem d8_14 : decode prog_22_method_2_code 14 = .ok (.aload_n 0, 1) := by decide +kernel
theorem d8_15 : decode prog_22_method_2_code 15 = .ok (.invokestatic 21, 3) := by decide +kernel
theorem d9_0 : decode jdk_72_method_26_code 0 = .ok (.getstatic 81, 3) := by decide +kernel
theorem d9_3 : decode jdk_72_method_26_code 3 = .ok (.areturn, 1) := by decide +kernel
theorem ef_9_3 (m : MethodId)  : entryFrame m #[] 0 = mkF m 0 #[] [] := by first | (simp [entryFrame, mkF, argsToLocals, Value.category]; done) | rfl
theorem pn_2 : plainName "java/util/Map" = true := by first | (simp [plainName, overriddenIn]; done) | decide +kernel
def Q_rm9_0 (Z : State) (w1 : Addr) (h0 : Heap) (n0 : Nat) (v : Option Value) (h : Heap) (L : List Loc) : Prop := v = some (.ref w1) ∧ Fr n0 L ∧ h = h0
set_option maxRecDepth 65536 in
set_option maxHeartbeats 40000000 in
theorem rm9_0 (l : Launch) (Z : State) (a0 : Array Value) (hw : ∀ d ∈ tables_1, d.before a0 Z = true) (ws : List Jvm.Cond) (w1 : Addr) (h0 : Heap) (n0 : Nat) (OL0 : Old Z n0 h0) (pr1 : Sta Z Z.heap "java/util/ImmutableCollections" "EMPTY_MAP" "Ljava/util/ImmutableCollections$MapN;" (.ref w1)) :
    MetFree l mn9 (head1 (Jvm.Cond.code mn9 jdk_72_method_26_code 0 (some (.object "java/util/Map")) :: ws) ({ frames := 0, cells := 0, slots := 0, locals := 0 } : Room)) (fun a U => a = #[] ∧ Z.Warmed39 U.vm ∧ U.heap = h0) (fun _ _ _ _ _ => True) (fun _ U o U' => ∃ v L, o = .returned v ∧ Q_rm9_0 Z w1 h0 n0 v U'.heap L ∧ FrameEnd U o U' L ({ frames := 0, cells := 0, slots := 0, locals := 0 } : Room).cells ({ frames := 0, cells := 0, slots := 0, locals := 0 } : Room).slots) := by
  refine MetFree.of_bodySF (plainFor_of_name pn_2) hisR ?_
  intro p e s m args below meth c s₁ Bd hml0 hP hK
  obtain ⟨rfl, hZ, hh⟩ := hP
  have hx := Bd.exec
  have hby := Bd.bytes
  have hml : c.maxLocals = 0 := hml0
  have hown : s.vm.findClass "java/util/Map" = some m.cls := findClass_of_methodNamed Bd.named
  have hnm := (name_of_methodNamed Bd.named Bd.method).1
  have X0 : Stand p l e ({ frames := 0, cells := 0, slots := 0, locals := 0 } : Room) s m #[] below meth c s₁ [] 0 0 := Stand.of_body Bd
  have e0 : s₁.heap = h0 := by rw [← hh, Bd.state]; rfl
  have N0 := Fr.nil n0
  have pre0 : ∀ t, SS p e below s₁ m 0 #[] [] t → Steps p.tables e below (s₁.setTop (entryFrame m #[] 0)) t := fun t k => castTop (ef_9_3 m ) k
  obtain ⟨T2, X2, e2, st2⟩ := getS2 X0 hx hZ hown (host := "") (Or.inl (wd45 hw)) Via.refl e0 (pr1.ext OL0.2) (g := (mkF m 0 #[] [])) rfl (hb hby d9_0)
  obtain ⟨fs, hr, hrun, hended, hW, hsame⟩ := X2.leave (v := some (.ref w1)) (fun h => by rw [Bd.returns] at h; cases h)
  refine ⟨_, _, pre0 _ ?_, hrun, hended, _, _, rfl, ?_, ⟨_, rfl⟩, hW, hsame.mono (by decide) (by decide)⟩
  · show SS p e below s₁ m 0 #[] [] _
    refine st2 _ ?_
    show SS p e below T2 m 3 #[] [(.ref w1)] _
    jvm_step X2.here [X2.here.top, hx, (hb hby d9_3), X2.method', Bd.returns, Value.isRef, FieldType.isReference]
    first | (intro acts; rw [hr _ acts rfl rfl rfl]) | rw [hr _ _ rfl rfl rfl]
    exact Steps.refl _
  · show Q_rm9_0 Z w1 h0 n0 _ T2.heap _
    rw [e2]
    exact ⟨rfl, N0, rfl⟩
theorem pd_3 : parseMethodDescriptor "()Ljava/util/Map;" = some ⟨[], some (.object "java/util/Map")⟩ := by decide +kernel
theorem d8_18 : decode prog_22_method_2_code 18 = .ok (.invokespecial 27, 3) := by decide +kernel
theorem d10_0 : decode prog_22_method_1_code 0 = .ok (.aload_n 0, 1) := by decide +kernel
theorem d10_1 : decode prog_22_method_1_code 1 = .ok (.invokespecial 1, 3) := by decide +kernel
theorem d10_4 : decode prog_22_method_1_code 4 = .ok (.aload_n 0, 1) := by decide +kernel
theorem d10_5 : decode prog_22_method_1_code 5 = .ok (.aload_n 1, 1) := by decide +kernel
theorem d10_6 : decode prog_22_method_1_code 6 = .ok (.putfield 7, 3) := by decide +kernel
theorem d10_9 : decode prog_22_method_1_code 9 = .ok (.aload_n 0, 1) := by decide +kernel
theorem d10_10 : decode prog_22_method_1_code 10 = .ok (.aload_n 2, 1) := by decide +kernel
theorem d10_11 : decode prog_22_method_1_code 11 = .ok (.putfield 13, 3) := by decide +kernel
theorem d10_14 : decode prog_22_method_1_code 14 = .ok (.return_, 1) := by decide +kernel
theorem ef_10_4 (m : MethodId) (x0 : Addr) (x1 : Addr) (x2 : Addr) : entryFrame m #[(.ref x0), (.ref x1), (.ref x2)] 3 = mkF m 0 #[.val (.ref x0), .val (.ref x1), .val (.ref x2)] [] := by first | (simp [entryFrame, mkF, argsToLocals, Value.category]; done) | rfl
theorem pn_3 : plainName "com/example/aeroslice/aeroslice/SrsDefaults" = true := by first | (simp [plainName, overriddenIn]; done) | decide +kernel
def Q_rm10_0 (Z : State) (a1 : Addr) (a2 : Addr) (w3 : Addr) (h0 : Heap) (n0 : Nat) (v : Option Value) (h : Heap) (L : List Loc) : Prop := v = none ∧ Fr n0 L ∧ Keep h0 h [a1] ∧ Fld Z h a1 "com/example/aeroslice/aeroslice/SrsDefaults" "common" "Ljava/lang/String;" (.ref a2) ∧ Fld Z h a1 "com/example/aeroslice/aeroslice/SrsDefaults" "byProperty" "Ljava/util/Map;" (.ref w3)
set_option maxRecDepth 65536 in
set_option maxHeartbeats 40000000 in
theorem rm10_0 (l : Launch) (Z : State) (a0 : Array Value) (hw : ∀ d ∈ tables_1, d.before a0 Z = true) (ws : List Jvm.Cond) (a1 : Addr) (a2 : Addr) (w3 : Addr) (h0 : Heap) (n0 : Nat) (OL0 : Old Z n0 h0) (pr1 : Exa Z h0 a1 "com/example/aeroslice/aeroslice/SrsDefaults") (pr2 : Fld Z h0 a1 "com/example/aeroslice/aeroslice/SrsDefaults" "common" "Ljava/lang/String;" .null) (pr3 : n0 ≤ a1) (pr4 : Fld Z h0 a1 "com/example/aeroslice/aeroslice/SrsDefaults" "byProperty" "Ljava/util/Map;" .null) :
    MetFree l mn10 (head1 (Jvm.Cond.code mn10 prog_22_method_1_code 3 none :: ws) ({ frames := 1, cells := 0, slots := 0, locals := 12 } : Room)) (fun a U => a = #[(.ref a1), (.ref a2), (.ref w3)] ∧ Z.Warmed39 U.vm ∧ U.heap = h0) (fun _ _ _ _ _ => True) (fun _ U o U' => ∃ v L, o = .returned v ∧ Q_rm10_0 Z a1 a2 w3 h0 n0 v U'.heap L ∧ FrameEnd U o U' L ({ frames := 1, cells := 0, slots := 0, locals := 12 } : Room).cells ({ frames := 1, cells := 0, slots := 0, locals := 12 } : Room).slots) := by
  refine MetFree.of_bodySF (plainFor_of_name pn_3) hisR ?_
  intro p e s m args below meth c s₁ Bd hml0 hP hK
  obtain ⟨rfl, hZ, hh⟩ := hP
  have hx := Bd.exec
  have hby := Bd.bytes
  have hml : c.maxLocals = 3 := hml0
  have hown : s.vm.findClass "com/example/aeroslice/aeroslice/SrsDefaults" = some m.cls := findClass_of_methodNamed Bd.named
  have hnm := (name_of_methodNamed Bd.named Bd.method).1
  have X0 : Stand p l e ({ frames := 1, cells := 0, slots := 0, locals := 12 } : Room) s m #[(.ref a1), (.ref a2), (.ref w3)] below meth c s₁ [] 0 0 := Stand.of_body Bd
  have e0 : s₁.heap = h0 := by rw [← hh, Bd.state]; rfl
  have N0 := Fr.nil n0
  have pre0 : ∀ t, SS p e below s₁ m 0 #[rv a1, rv a2, rv w3] [] t → Steps p.tables e below (s₁.setTop (entryFrame m #[(.ref a1), (.ref a2), (.ref w3)] 3)) t := fun t k => castTop (ef_10_4 m a1 a2 w3) k
  obtain ⟨T4, X4, e4, st4⟩ := initO X0 hx hZ hown (wd50 hw) (wd17 hw) (wd18 hw) e0 (g := (mkF m 1 #[rv a1, rv a2, rv w3] [(.ref a1)])) rfl (by rw [hml]; rfl) rfl (hb hby d10_1) (by decide) (W := 0) (by show 2 * 0 + _ ≤ _; exact Nat.le_of_eq rfl) (by decide)
  obtain ⟨T5, h5, X5, e5, W5, st5⟩ := putF X4 hx hZ hown (host := "") (Or.inl (wd51 hw)) Via.refl e4 pr2 pr1 (Or.inr ⟨(wd52 hw), rfl, hnm⟩) (wd40 hw) (ty := (.object "java/lang/String")) (by decide) rfl rfl (g := (mkF m 6 #[rv a1, rv a2, rv w3] [(.ref a2), (.ref a1)])) rfl rfl (hb hby d10_6)
  have Fw5 := pr2.same W5
  have KK5 : Keep h0 h5 [a1] := (Keep.refl h0 [a1]).wr W5 (Or.inl (List.mem_of_getElem? (i := 0) rfl))
  have OL5 := OL0.wr W5 pr3
  have N5 := Fr.snoc X5 N0 pr3
  have fc6 := (pr1.wr W5)
  have fc7 := (pr4.other W5 (Or.inr (slot_ne (Or.inr (wd54 hw)) (Or.inr (wd52 hw)) (by decide) (t := (.object "java/util/Map")) (t' := (.object "java/lang/String")) (by decide) (by decide))))
  obtain ⟨T8, h8, X8, e8, W8, st8⟩ := putF X5 hx hZ hown (host := "") (Or.inl (wd53 hw)) Via.refl e5 fc7 fc6 (Or.inr ⟨(wd54 hw), rfl, hnm⟩) (wd40 hw) (ty := (.object "java/util/Map")) (by decide) rfl rfl (g := (mkF m 11 #[rv a1, rv a2, rv w3] [(.ref w3), (.ref a1)])) rfl rfl (hb hby d10_11)
  have Fw8 := fc7.same W8
  have KK8 : Keep h0 h8 [a1] := KK5.wr W8 (Or.inl (List.mem_of_getElem? (i := 0) rfl))
  have OL8 := OL5.wr W8 pr3
  have N8 := Fr.snoc X8 N5 pr3
  have fc9 := (Fw5.other W8 (Or.inr (slot_ne (Or.inr (wd52 hw)) (Or.inr (wd54 hw)) (by decide) (t := (.object "java/lang/String")) (t' := (.object "java/util/Map")) (by decide) (by decide))))
  obtain ⟨fs, hr, hrun, hended, hW, hsame⟩ := X8.leave (v := none) (fun _ => rfl)
  refine ⟨_, _, pre0 _ ?_, hrun, hended, _, _, rfl, ?_, ⟨_, rfl⟩, hW, hsame.mono (by decide) (by decide)⟩
  · show SS p e below s₁ m 0 #[rv a1, rv a2, rv w3] [] _
    refine XS.aloadN X0.here hx rfl (hb hby d10_0) rfl rfl ?_
    show SS p e below s₁ m 1 #[rv a1, rv a2, rv w3] [(.ref a1)] _
    refine st4 _ ?_
    show SS p e below T4 m 4 #[rv a1, rv a2, rv w3] [] _
    refine XS.aloadN X4.here hx rfl (hb hby d10_4) rfl rfl ?_
    refine XS.aloadN X4.here hx rfl (hb hby d10_5) rfl rfl ?_
    show SS p e below T4 m 6 #[rv a1, rv a2, rv w3] [(.ref a2), (.ref a1)] _
    refine st5 _ ?_
    show SS p e below T5 m 9 #[rv a1, rv a2, rv w3] [] _
    refine XS.aloadN X5.here hx rfl (hb hby d10_9) rfl rfl ?_
    refine XS.aloadN X5.here hx rfl (hb hby d10_10) rfl rfl ?_
    show SS p e below T5 m 11 #[rv a1, rv a2, rv w3] [(.ref w3), (.ref a1)] _
    refine st8 _ ?_
    show SS p e below T8 m 14 #[rv a1, rv a2, rv w3] [] _
    exact X8.returnOut hx Bd.returns (hb hby d10_14) hr
  · show Q_rm10_0 Z a1 a2 w3 h0 n0 _ T8.heap _
    rw [e8]
    exact ⟨rfl, N8, KK8, fc9, Fw8⟩
theorem pd_4 : parseMethodDescriptor "(Ljava/lang/String;Ljava/util/Map;)V" = some ⟨[(.object "java/lang/String"), (.object "java/util/Map")], none⟩ := by decide +kernel
theorem d8_21 : decode prog_22_method_2_code 21 = .ok (.areturn, 1) := by decide +kernel
theorem ef_8_5 (m : MethodId) (x0 : Addr) : entryFrame m #[(.ref x0)] 1 = mkF m 0 #[.val (.ref x0)] [] := by first | (simp [entryFrame, mkF, argsToLocals, Value.category]; done) | rfl
def Q_rm8_0 (Z : State) (a1 : Addr) (w3 : Addr) (h0 : Heap) (n0 : Nat) (v : Option Value) (h : Heap) (L : List Loc) : Prop := ∃ b2 : Addr, v = some (.ref b2) ∧ Fr n0 L ∧ Keep h0 h [] ∧ h0.size ≤ b2 ∧ Exa Z h b2 "com/example/aeroslice/aeroslice/SrsDefaults" ∧ Fld Z h b2 "com/example/aeroslice/aeroslice/SrsDefaults" "common" "Ljava/lang/String;" (.ref a1) ∧ Fld Z h b2 "com/example/aeroslice/aeroslice/SrsDefaults" "byProperty" "Ljava/util/Map;" (.ref w3)
set_option maxRecDepth 65536 in
set_option maxHeartbeats 40000000 in
theorem rm8_0 (l : Launch) (Z : State) (a0 : Array Value) (hw : ∀ d ∈ tables_1, d.before a0 Z = true) (ws : List Jvm.Cond) (a1 : Addr) (w3 : Addr) (h0 : Heap) (n0 : Nat) (OL0 : Old Z n0 h0) (pr1 : Sta Z Z.heap "java/util/ImmutableCollections" "EMPTY_MAP" "Ljava/util/ImmutableCollections$MapN;" (.ref w3)) :
    MetFree l mn8 (head1 (Jvm.Cond.code mn8 prog_22_method_2_code 1 (some (.object "com/example/aeroslice/aeroslice/SrsDefaults")) :: ws) ({ frames := 2, cells := 1, slots := 2, locals := 27 } : Room)) (fun a U => a = #[(.ref a1)] ∧ Z.Warmed39 U.vm ∧ U.heap = h0) (fun _ _ _ _ _ => True) (fun _ U o U' => ∃ v L, o = .returned v ∧ Q_rm8_0 Z a1 w3 h0 n0 v U'.heap L ∧ FrameEnd U o U' L ({ frames := 2, cells := 1, slots := 2, locals := 27 } : Room).cells ({ frames := 2, cells := 1, slots := 2, locals := 27 } : Room).slots) := by
  refine MetFree.of_bodySF (plainFor_of_name pn_3) hisR ?_
  intro p e s m args below meth c s₁ Bd hml0 hP hK
  obtain ⟨rfl, hZ, hh⟩ := hP
  have hx := Bd.exec
  have hby := Bd.bytes
  have hml : c.maxLocals = 1 := hml0
  have hown : s.vm.findClass "com/example/aeroslice/aeroslice/SrsDefaults" = some m.cls := findClass_of_methodNamed Bd.named
  have hnm := (name_of_methodNamed Bd.named Bd.method).1
  have X0 : Stand p l e ({ frames := 2, cells := 1, slots := 2, locals := 27 } : Room) s m #[(.ref a1)] below meth c s₁ [] 0 0 := Stand.of_body Bd
  have e0 : s₁.heap = h0 := by rw [← hh, Bd.state]; rfl
  have N0 := Fr.nil n0
  have pre0 : ∀ t, SS p e below s₁ m 0 #[rv a1] [] t → Steps p.tables e below (s₁.setTop (entryFrame m #[(.ref a1)] 1)) t := fun t k => castTop (ef_8_5 m a1) k
  obtain ⟨T2, h2, X2, e2, E2, A2, D2, -, st2⟩ := newO X0 hx hZ hown (wd39 hw) (wd40 hw) (wd37 hw) e0 (g := (mkF m 10 #[rv a1] [])) rfl (hb hby d8_10) (by decide) (by decide)
  obtain ⟨b2, g2⟩ : ∃ z, z = h0.size := ⟨_, rfl⟩
  rw [← g2] at A2 D2 st2
  have g_b2 : n0 ≤ b2 := (Nat.le_trans (Nat.le_trans (Nat.le_of_eq OL0.1.symm) OL0.2.1) (Nat.le_of_eq g2.symm))
  have sz_b2 : h0.size ≤ b2 := (Nat.le_trans (Keep.refl h0 []).1 (Nat.le_of_eq g2.symm))
  have KK2 : Keep h0 h2 [] := (Keep.refl h0 []).ext E2
  have OL2 := OL0.ext E2
  have F_common_b2 : Fld Z h2 b2 "com/example/aeroslice/aeroslice/SrsDefaults" "common" "Ljava/lang/String;" .null := D2 (Or.inr (wd52 hw)) (ty := (.object "java/lang/String")) (by decide)
  have F_byProperty_b2 : Fld Z h2 b2 "com/example/aeroslice/aeroslice/SrsDefaults" "byProperty" "Ljava/util/Map;" .null := D2 (Or.inr (wd54 hw)) (ty := (.object "java/util/Map")) (by decide)
  obtain ⟨_, _, ⟨T4, L4, k4, n4⟩, -, X4, ⟨Lc4, hQ4, l4, y4, z4⟩, st4⟩ := Jvm.LawKit.callS X2 hx (y := mn9) hown (mvT hZ (wd41 hw)) (mvT hZ (wd42 hw)) (mvT hZ (wd43 hw)) (mvT hZ (wd44 hw)) (by decide) (backOf (W := 3) (rm9_0 l Z a0 hw [] w3 h2 n0 OL2 pr1) hZ (wd44 hw) (wd43 hw) (by decide) (by decide)) (g := (mkF m 15 #[rv a1] [(.ref a1), (.ref b2), (.ref b2)])) rfl (by rw [hml]; rfl) (argsL := []) (rest := [(.ref a1), (.ref b2), (.ref b2)]) (lenOf pd_3 rfl) rfl (by show 2 * 0 + _ ≤ _; exact Nat.le_of_eq rfl) (hb hby d8_15) (fun _ _ => ⟨rfl, e2, (by decide : 1 + 0 ≤ _), (by decide : 2 + 0 ≤ _)⟩)
  dsimp only [Pt.U, Pt.locs, Pt.cells, Pt.slots] at X4 l4 y4 z4 st4 hQ4
  subst l4 y4 z4
  obtain ⟨rfl, Nq4, ec4⟩ := hQ4
  have N4 := Fr.app N0 Nq4
  obtain ⟨_, _, ⟨T5, L5, k5, n5⟩, -, X5, ⟨Lc5, hQ5, l5, y5, z5⟩, st5⟩ := X4.specialBack hx (y := mn10) rfl hown (mvT hZ (wd47 hw)) (mvT hZ (wd48 hw)) (mvT hZ (wd49 hw)) (by decide) (backOf (W := 1) (rm10_0 l Z a0 hw [] b2 a1 w3 h2 n0 OL2 A2 F_common_b2 g_b2 F_byProperty_b2) hZ (wd49 hw) (wd37 hw) (by decide) (by decide)) (g := (mkF m 18 #[rv a1] [(.ref w3), (.ref a1), (.ref b2), (.ref b2)])) rfl (by rw [hml]; rfl) (Steps.refl _) (a := b2) (argsL := [(.ref a1), (.ref w3)]) (rest := [(.ref b2)]) (lenOf pd_4 rfl) rfl (by show 2 * 0 + _ ≤ _; exact Nat.le_of_eq rfl) (hb hby d8_18) (fun _ _ => ⟨rfl, ec4, (by decide : 1 + 0 ≤ _), (by decide : 2 + 0 ≤ _)⟩)
  dsimp only [Pt.U, Pt.locs, Pt.cells, Pt.slots] at X5 l5 y5 z5 st5 hQ5
  subst l5 y5 z5
  obtain ⟨rfl, Nq5, K5, u5_0, u5_1⟩ := hQ5
  have KK5 : Keep h0 T5.heap [] := KK2.trans K5 (allS (Or.inr sz_b2) all0)
  have OL5 := OL2.keep K5 (allS g_b2 all0)
  have N5 := Fr.app N4 Nq5
  have fc6 := (A2.keep K5)
  obtain ⟨fs, hr, hrun, hended, hW, hsame⟩ := X5.leave (v := some (.ref b2)) (fun h => by rw [Bd.returns] at h; cases h)
  refine ⟨_, _, pre0 _ ?_, hrun, hended, _, _, rfl, ?_, ⟨_, rfl⟩, hW, hsame.mono (by decide) (by decide)⟩
  · show SS p e below s₁ m 0 #[rv a1] [] _
    refine XS.aloadN X0.here hx rfl (hb hby d8_0) rfl rfl ?_
    show SS p e below s₁ m 1 #[rv a1] [(.ref a1)] _
    refine XS.ifnonnullYes X0.here hx rfl (pc0 := 1) (pc' := 10) rfl (hb hby d8_1) rfl (by decide) (by decide) ?_
    show SS p e below s₁ m 10 #[rv a1] [] _
    refine st2 _ ?_
    show SS p e below T2 m 13 #[rv a1] [(.ref b2)] _
    refine XS.dup X2.here hx rfl (hb hby d8_13) rfl rfl ?_
    refine XS.aloadN X2.here hx rfl (hb hby d8_14) rfl rfl ?_
    show SS p e below T2 m 15 #[rv a1] [(.ref a1), (.ref b2), (.ref b2)] _
    refine st4 _ ?_
    show SS p e below T4 m 18 #[rv a1] [(.ref w3), (.ref a1), (.ref b2), (.ref b2)] _
    refine st5.trans ?_
    show SS p e below T5 m 21 #[rv a1] [(.ref b2)] _
    jvm_step X5.here [X5.here.top, hx, (hb hby d8_21), X5.method', Bd.returns, Value.isRef, FieldType.isReference]
    first | (intro acts; rw [hr _ acts rfl rfl rfl]) | rw [hr _ _ rfl rfl rfl]
    exact Steps.refl _
  · show Q_rm8_0 Z a1 w3 h0 n0 _ T5.heap _
    exact ⟨b2, rfl, N5, KK5, sz_b2, fc6, u5_0, u5_1⟩
theorem pd_5 : parseMethodDescriptor "(Ljava/lang/String;)Lcom/example/aeroslice/aeroslice/SrsDefaults;" = some ⟨[(.object "java/lang/String")], some (.object "com/example/aeroslice/aeroslice/SrsDefaults")⟩ := by decide +kernel
theorem d11_0 : decode prog_22_method_3_code 0 = .ok (.aload_n 0, 1) := by decide +kernel
theorem d11_1 : decode prog_22_method_3_code 1 = .ok (.getfield 13, 3) := by decide +kernel
theorem d11_4 : decode prog_22_method_3_code 4 = .ok (.invokeinterface 30 1, 5) := by decide +kernel
theorem d12_0 : decode jdk_2605_method_7_code 0 = .ok (.aload_n 0, 1) := by decide +kernel
theorem d12_1 : decode jdk_2605_method_7_code 1 = .ok (.getfield 16, 3) := by decide +kernel
theorem d12_4 : decode jdk_2605_method_7_code 4 = .ok (.ifCond .ne 7, 3) := by decide +kernel
theorem d12_7 : decode jdk_2605_method_7_code 7 = .ok (.iconst 1, 1) := by decide +kernel
theorem d12_8 : decode jdk_2605_method_7_code 8 = .ok (.goto 4, 3) := by decide +kernel
theorem d12_12 : decode jdk_2605_method_7_code 12 = .ok (.ireturn, 1) := by decide +kernel
theorem ef_12_6 (m : MethodId) (x0 : Addr) : entryFrame m #[(.ref x0)] 1 = mkF m 0 #[.val (.ref x0)] [] := by first | (simp [entryFrame, mkF, argsToLocals, Value.category]; done) | rfl
theorem pn_4 : plainName "java/util/ImmutableCollections$MapN" = true := by first | (simp [plainName, overriddenIn]; done) | decide +kernel
def Q_rm12_0 (Z : State) (w1 : Addr) (h0 : Heap) (n0 : Nat) (v : Option Value) (h : Heap) (L : List Loc) : Prop := v = some (.int (1 : Int32)) ∧ Fr n0 L ∧ h = h0
set_option maxRecDepth 65536 in
set_option maxHeartbeats 40000000 in
theorem rm12_0 (l : Launch) (Z : State) (a0 : Array Value) (hw : ∀ d ∈ tables_1, d.before a0 Z = true) (ws : List Jvm.Cond) (w1 : Addr) (h0 : Heap) (n0 : Nat) (OL0 : Old Z n0 h0) (pr1 : Fld Z Z.heap w1 "java/util/ImmutableCollections$MapN" "size" "I" (.int (0 : Int32))) :
    MetFree l mn12 (head1 (Jvm.Cond.code mn12 jdk_2605_method_7_code 1 (some .boolean) :: ws) ({ frames := 0, cells := 0, slots := 0, locals := 0 } : Room)) (fun a U => a = #[(.ref w1)] ∧ Z.Warmed39 U.vm ∧ U.heap = h0) (fun _ _ _ _ _ => True) (fun _ U o U' => ∃ v L, o = .returned v ∧ Q_rm12_0 Z w1 h0 n0 v U'.heap L ∧ FrameEnd U o U' L ({ frames := 0, cells := 0, slots := 0, locals := 0 } : Room).cells ({ frames := 0, cells := 0, slots := 0, locals := 0 } : Room).slots) := by
  refine MetFree.of_bodySF (plainFor_of_name pn_4) hisR ?_
  intro p e s m args below meth c s₁ Bd hml0 hP hK
  obtain ⟨rfl, hZ, hh⟩ := hP
  have hx := Bd.exec
  have hby := Bd.bytes
  have hml : c.maxLocals = 1 := hml0
  have hown : s.vm.findClass "java/util/ImmutableCollections$MapN" = some m.cls := findClass_of_methodNamed Bd.named
  have hnm := (name_of_methodNamed Bd.named Bd.method).1
  have X0 : Stand p l e ({ frames := 0, cells := 0, slots := 0, locals := 0 } : Room) s m #[(.ref w1)] below meth c s₁ [] 0 0 := Stand.of_body Bd
  have e0 : s₁.heap = h0 := by rw [← hh, Bd.state]; rfl
  have N0 := Fr.nil n0
  have pre0 : ∀ t, SS p e below s₁ m 0 #[rv w1] [] t → Steps p.tables e below (s₁.setTop (entryFrame m #[(.ref w1)] 1)) t := fun t k => castTop (ef_12_6 m w1) k
  obtain ⟨T2, X2, e2, st2⟩ := getF X0 hx hZ hown (host := "") (Or.inl (wd70 hw)) Via.refl e0 (pr1.ext OL0.2) (g := (mkF m 1 #[rv w1] [(.ref w1)])) rfl rfl (hb hby d12_1)
  obtain ⟨fs, hr, hrun, hended, hW, hsame⟩ := X2.leave (v := some (.int (1 : Int32))) (fun h => by rw [Bd.returns] at h; cases h)
  refine ⟨_, _, pre0 _ ?_, hrun, hended, _, _, rfl, ?_, ⟨_, rfl⟩, hW, hsame.mono (by decide) (by decide)⟩
  · show SS p e below s₁ m 0 #[rv w1] [] _
    refine XS.aloadN X0.here hx rfl (hb hby d12_0) rfl rfl ?_
    show SS p e below s₁ m 1 #[rv w1] [(.ref w1)] _
    refine st2 _ ?_
    show SS p e below T2 m 4 #[rv w1] [(.int (0 : Int32))] _
    refine XS.ifNo X2.here hx rfl (hb hby d12_4) rfl ((if0 _ _).trans (teq (rfl : (0 : Int32) = (0 : Int32))).2) ?_
    show SS p e below T2 m 7 #[rv w1] [] _
    refine XS.iconst X2.here hx rfl (hb hby d12_7) ?_
    refine XS.goto X2.here hx rfl (pc0 := 8) (pc' := 12) rfl (hb hby d12_8) (by decide) (by decide) ?_
    show SS p e below T2 m 12 #[rv w1] [(.int (1 : Int32))] _
    exact retN X2 hx (t := .boolean) Bd.returns (by simp) (hb hby d12_12) hr
  · show Q_rm12_0 Z w1 h0 n0 _ T2.heap _
    rw [e2]
    exact ⟨rfl, N0, rfl⟩
theorem pd_6 : parseMethodDescriptor "()Z" = some ⟨[], some .boolean⟩ := by decide +kernel
theorem d11_9 : decode prog_22_method_3_code 9 = .ok (.ifCond .ne 13, 3) := by decide +kernel
theorem d11_22 : decode prog_22_method_3_code 22 = .ok (.aload_n 0, 1) := by decide +kernel
theorem d11_23 : decode prog_22_method_3_code 23 = .ok (.getfield 7, 3) := by decide +kernel
theorem d11_26 : decode prog_22_method_3_code 26 = .ok (.areturn, 1) := by decide +kernel
theorem ef_11_7 (m : MethodId) (x0 : Addr) : entryFrame m #[(.ref x0)] 1 = mkF m 0 #[.val (.ref x0)] [] := by first | (simp [entryFrame, mkF, argsToLocals, Value.category]; done) | rfl
def Q_rm11_0 (Z : State) (a1 : Addr) (w2 : Addr) (a5 : Addr) (h0 : Heap) (n0 : Nat) (v : Option Value) (h : Heap) (L : List Loc) : Prop := v = some (.ref a5) ∧ Fr n0 L ∧ h = h0
set_option maxRecDepth 65536 in
set_option maxHeartbeats 40000000 in
theorem rm11_0 (l : Launch) (Z : State) (a0 : Array Value) (hw : ∀ d ∈ tables_1, d.before a0 Z = true) (ws : List Jvm.Cond) (a1 : Addr) (w2 : Addr) (a5 : Addr) (h0 : Heap) (n0 : Nat) (OL0 : Old Z n0 h0) (pr1 : Fld Z h0 a1 "com/example/aeroslice/aeroslice/SrsDefaults" "byProperty" "Ljava/util/Map;" (.ref w2)) (pr2 : Fld Z Z.heap w2 "java/util/ImmutableCollections$MapN" "size" "I" (.int (0 : Int32))) (pr3 : Exa Z Z.heap w2 "java/util/ImmutableCollections$MapN") (pr4 : Fld Z h0 a1 "com/example/aeroslice/aeroslice/SrsDefaults" "common" "Ljava/lang/String;" (.ref a5)) :
    MetFree l mn11 (head1 (Jvm.Cond.code mn11 prog_22_method_3_code 1 (some (.object "java/lang/String")) :: ws) ({ frames := 1, cells := 0, slots := 0, locals := 12 } : Room)) (fun a U => a = #[(.ref a1)] ∧ Z.Warmed39 U.vm ∧ U.heap = h0) (fun _ _ _ _ _ => True) (fun _ U o U' => ∃ v L, o = .returned v ∧ Q_rm11_0 Z a1 w2 a5 h0 n0 v U'.heap L ∧ FrameEnd U o U' L ({ frames := 1, cells := 0, slots := 0, locals := 12 } : Room).cells ({ frames := 1, cells := 0, slots := 0, locals := 12 } : Room).slots) := by
  refine MetFree.of_bodySF (plainFor_of_name pn_3) hisR ?_
  intro p e s m args below meth c s₁ Bd hml0 hP hK
  obtain ⟨rfl, hZ, hh⟩ := hP
  have hx := Bd.exec
  have hby := Bd.bytes
  have hml : c.maxLocals = 1 := hml0
  have hown : s.vm.findClass "com/example/aeroslice/aeroslice/SrsDefaults" = some m.cls := findClass_of_methodNamed Bd.named
  have hnm := (name_of_methodNamed Bd.named Bd.method).1
  have X0 : Stand p l e ({ frames := 1, cells := 0, slots := 0, locals := 12 } : Room) s m #[(.ref a1)] below meth c s₁ [] 0 0 := Stand.of_body Bd
  have e0 : s₁.heap = h0 := by rw [← hh, Bd.state]; rfl
  have N0 := Fr.nil n0
  have pre0 : ∀ t, SS p e below s₁ m 0 #[rv a1] [] t → Steps p.tables e below (s₁.setTop (entryFrame m #[(.ref a1)] 1)) t := fun t k => castTop (ef_11_7 m a1) k
  obtain ⟨T3, X3, e3, st3⟩ := getF X0 hx hZ hown (host := "") (Or.inl (wd53 hw)) Via.refl e0 pr1 (g := (mkF m 1 #[rv a1] [(.ref a1)])) rfl rfl (hb hby d11_1)
  obtain ⟨cq4, kq4, q4a, q4b, q4c⟩ := isOf hZ e3 (pr3.ext OL0.2)
  obtain ⟨_, _, ⟨T4, L4, k4, n4⟩, -, X4, ⟨Lc4, hQ4, l4, y4, z4⟩, st4⟩ := X3.interfaceBack hx (xi := (⟨"java/util/Map", "isEmpty", "()Z"⟩ : MethodName)) (y := mn12) hown (mvT hZ (wd60 hw)) (mvT hZ (wd61 hw)) (mvT hZ (wd62 hw)) (mvT hZ (wd63 hw)) (mvT hZ (wd64 hw)) (mvT hZ (wd65 hw)) (mvT hZ (wd66 hw)) (mvT hZ (wd67 hw)) (by decide) (backOf (W := 0) (rm12_0 l Z a0 hw [] w2 h0 n0 OL0 pr2) hZ (wd69 hw) (wd68 hw) (by decide) (by decide)) q4a q4b q4c (g := (mkF m 4 #[rv a1] [(.ref w2)])) rfl (by rw [hml]; rfl) (Steps.refl _) (argsL := []) (rest := []) (lenOf pd_6 rfl) rfl (by show 2 * 0 + _ ≤ _; exact Nat.le_of_eq rfl) (hb hby d11_4) (fun _ _ => ⟨rfl, e3, (by decide : 0 + 0 ≤ _), (by decide : 0 + 0 ≤ _)⟩)
  dsimp only [Pt.U, Pt.locs, Pt.cells, Pt.slots] at X4 l4 y4 z4 st4 hQ4
  subst l4 y4 z4
  obtain ⟨rfl, Nq4, ec4⟩ := hQ4
  have N4 := Fr.app N0 Nq4
  obtain ⟨T6, X6, e6, st6⟩ := getF X4 hx hZ hown (host := "") (Or.inl (wd51 hw)) Via.refl ec4 pr4 (g := (mkF m 23 #[rv a1] [(.ref a1)])) rfl rfl (hb hby d11_23)
  obtain ⟨fs, hr, hrun, hended, hW, hsame⟩ := X6.leave (v := some (.ref a5)) (fun h => by rw [Bd.returns] at h; cases h)
  refine ⟨_, _, pre0 _ ?_, hrun, hended, _, _, rfl, ?_, ⟨_, rfl⟩, hW, hsame.mono (by decide) (by decide)⟩
  · show SS p e below s₁ m 0 #[rv a1] [] _
    refine XS.aloadN X0.here hx rfl (hb hby d11_0) rfl rfl ?_
    show SS p e below s₁ m 1 #[rv a1] [(.ref a1)] _
    refine st3 _ ?_
    show SS p e below T3 m 4 #[rv a1] [(.ref w2)] _
    refine st4.trans ?_
    show SS p e below T4 m 9 #[rv a1] [(.int (1 : Int32))] _
    refine XS.ifYes X4.here hx rfl (pc0 := 9) (pc' := 22) rfl (hb hby d11_9) rfl ((if0 _ _).trans (feq (by decide : ¬ ((1 : Int32) = (0 : Int32)))).2) (by decide) (by decide) ?_
    show SS p e below T4 m 22 #[rv a1] [] _
    refine XS.aloadN X4.here hx rfl (hb hby d11_22) rfl rfl ?_
    show SS p e below T4 m 23 #[rv a1] [(.ref a1)] _
    refine st6 _ ?_
    show SS p e below T6 m 26 #[rv a1] [(.ref a5)] _
    jvm_step X6.here [X6.here.top, hx, (hb hby d11_26), X6.method', Bd.returns, Value.isRef, FieldType.isReference]
    first | (intro acts; rw [hr _ acts rfl rfl rfl]) | rw [hr _ _ rfl rfl rfl]
    exact Steps.refl _
  · show Q_rm11_0 Z a1 w2 a5 h0 n0 _ T6.heap _
    rw [e6]
    exact ⟨rfl, N4, rfl⟩
theorem pd_7 : parseMethodDescriptor "()Ljava/lang/String;" = some ⟨[], some (.object "java/lang/String")⟩ := by decide +kernel
theorem d13_0 : decode jdk_42_method_66_code 0 = .ok (.aload_n 0, 1) := by decide +kernel
theorem d13_1 : decode jdk_42_method_66_code 1 = .ok (.aload_n 1, 1) := by decide +kernel
theorem d13_2 : decode jdk_42_method_66_code 2 = .ok (.if_acmp .ne 5, 3) := by decide +kernel
theorem d13_5 : decode jdk_42_method_66_code 5 = .ok (.iconst 1, 1) := by decide +kernel
theorem d13_6 : decode jdk_42_method_66_code 6 = .ok (.ireturn, 1) := by decide +kernel
theorem ef_13_8 (m : MethodId) (x0 : Addr) (x1 : Addr) : entryFrame m #[(.ref x0), (.ref x1)] 3 = mkF m 0 #[.val (.ref x0), .val (.ref x1), .unset] [] := by first | (simp [entryFrame, mkF, argsToLocals, Value.category]; done) | rfl
def Q_rm13_0 (Z : State) (a1 : Addr) (h0 : Heap) (n0 : Nat) (v : Option Value) (h : Heap) (L : List Loc) : Prop := v = some (.int (1 : Int32)) ∧ Fr n0 L ∧ h = h0
set_option maxRecDepth 65536 in
set_option maxHeartbeats 40000000 in
theorem rm13_0 (l : Launch) (Z : State) (a0 : Array Value) (hw : ∀ d ∈ tables_1, d.before a0 Z = true) (ws : List Jvm.Cond) (a1 : Addr) (h0 : Heap) (n0 : Nat) (OL0 : Old Z n0 h0)  :
    MetFree l mn13 (head1 (Jvm.Cond.code mn13 jdk_42_method_66_code 3 (some .boolean) :: ws) ({ frames := 0, cells := 0, slots := 0, locals := 0 } : Room)) (fun a U => a = #[(.ref a1), (.ref a1)] ∧ Z.Warmed39 U.vm ∧ U.heap = h0) (fun _ _ _ _ _ => True) (fun _ U o U' => ∃ v L, o = .returned v ∧ Q_rm13_0 Z a1 h0 n0 v U'.heap L ∧ FrameEnd U o U' L ({ frames := 0, cells := 0, slots := 0, locals := 0 } : Room).cells ({ frames := 0, cells := 0, slots := 0, locals := 0 } : Room).slots) := by
  refine MetFree.of_bodySF (plainFor_of_name pn_0) hisR ?_
  intro p e s m args below meth c s₁ Bd hml0 hP hK
  obtain ⟨rfl, hZ, hh⟩ := hP
  have hx := Bd.exec
  have hby := Bd.bytes
  have hml : c.maxLocals = 3 := hml0
  have hown : s.vm.findClass "java/lang/String" = some m.cls := findClass_of_methodNamed Bd.named
  have hnm := (name_of_methodNamed Bd.named Bd.method).1
  have X0 : Stand p l e ({ frames := 0, cells := 0, slots := 0, locals := 0 } : Room) s m #[(.ref a1), (.ref a1)] below meth c s₁ [] 0 0 := Stand.of_body Bd
  have e0 : s₁.heap = h0 := by rw [← hh, Bd.state]; rfl
  have N0 := Fr.nil n0
  have pre0 : ∀ t, SS p e below s₁ m 0 #[rv a1, rv a1, .unset] [] t → Steps p.tables e below (s₁.setTop (entryFrame m #[(.ref a1), (.ref a1)] 3)) t := fun t k => castTop (ef_13_8 m a1 a1) k
  obtain ⟨fs, hr, hrun, hended, hW, hsame⟩ := X0.leave (v := some (.int (1 : Int32))) (fun h => by rw [Bd.returns] at h; cases h)
  refine ⟨_, _, pre0 _ ?_, hrun, hended, _, _, rfl, ?_, ⟨_, rfl⟩, hW, hsame.mono (by decide) (by decide)⟩
  · show SS p e below s₁ m 0 #[rv a1, rv a1, .unset] [] _
    refine XS.aloadN X0.here hx rfl (hb hby d13_0) rfl rfl ?_
    refine XS.aloadN X0.here hx rfl (hb hby d13_1) rfl rfl ?_
    show SS p e below s₁ m 2 #[rv a1, rv a1, .unset] [(.ref a1), (.ref a1)] _
    refine Jvm.RoadKit.acmp (g := (mkF m 2 #[rv a1, rv a1, .unset] [(.ref a1), (.ref a1)])) X0 hx rfl rfl rfl (pc0 := 2) (pc' := 5) (same := true) rfl (hb hby d13_2) rfl (decide_eq_true rfl) (by decide) (by decide) ?_
    show SS p e below s₁ m 5 #[rv a1, rv a1, .unset] [] _
    refine XS.iconst X0.here hx rfl (hb hby d13_5) ?_
    show SS p e below s₁ m 6 #[rv a1, rv a1, .unset] [(.int (1 : Int32))] _
    exact retN X0 hx (t := .boolean) Bd.returns (by simp) (hb hby d13_6) hr
  · show Q_rm13_0 Z a1 h0 n0 _ s₁.heap _
    rw [e0]
    exact ⟨rfl, N0, rfl⟩
theorem pd_8 : parseMethodDescriptor "(Ljava/lang/Object;)Z" = some ⟨[(.object "java/lang/Object")], some .boolean⟩ := by decide +kernel
theorem d1_15 : decode method_2_code 15 = .ok (.iload_n 0, 1) := by decide +kernel
theorem d1_16 : decode method_2_code 16 = .ok (.iconst 1, 1) := by decide +kernel
theorem d1_17 : decode method_2_code 17 = .ok (.if_icmp .ne 8, 3) := by decide +kernel
theorem d1_20 : decode method_2_code 20 = .ok (.iload_n 1, 1) := by decide +kernel
theorem d1_21 : decode method_2_code 21 = .ok (.invokestatic 12, 3) := by decide +kernel
theorem d19_0 : decode jdk_42_method_139_code 0 = .ok (.getstatic 38, 3) := by decide +kernel
theorem d19_3 : decode jdk_42_method_139_code 3 = .ok (.ifCond .eq 23, 3) := by decide +kernel
theorem d19_6 : decode jdk_42_method_139_code 6 = .ok (.iload_n 0, 1) := by decide +kernel
theorem d19_7 : decode jdk_42_method_139_code 7 = .ok (.invokestatic 1015, 3) := by decide +kernel
theorem d20_0 : decode jdk_43_method_3_code 0 = .ok (.iload_n 0, 1) := by decide +kernel
theorem d20_1 : decode jdk_43_method_3_code 1 = .ok (.sipush 255, 3) := by decide +kernel
theorem d20_4 : decode jdk_43_method_3_code 4 = .ok (.if_icmp .gt 7, 3) := by decide +kernel
theorem d20_11 : decode jdk_43_method_3_code 11 = .ok (.iconst 0, 1) := by decide +kernel
theorem d20_12 : decode jdk_43_method_3_code 12 = .ok (.ireturn, 1) := by decide +kernel
theorem ef_20_9 (m : MethodId) (x0 : Int32) : entryFrame m #[(.int x0)] 1 = mkF m 0 #[.val (.int x0)] [] := by first | (simp [entryFrame, mkF, argsToLocals, Value.category]; done) | rfl
theorem pn_5 : plainName "java/lang/StringLatin1" = true := by first | (simp [plainName, overriddenIn]; done) | decide +kernel
def Q_rm20_0 (Z : State) (p1 : Int32) (h0 : Heap) (n0 : Nat) (v : Option Value) (h : Heap) (L : List Loc) : Prop := v = some (.int (0 : Int32)) ∧ Fr n0 L ∧ h = h0
set_option maxRecDepth 65536 in
set_option maxHeartbeats 40000000 in
theorem rm20_0 (l : Launch) (Z : State) (a0 : Array Value) (hw : ∀ d ∈ tables_1, d.before a0 Z = true) (ws : List Jvm.Cond) (p1 : Int32) (h0 : Heap) (n0 : Nat) (OL0 : Old Z n0 h0) (pr1 : (255 : Int32) < p1) :
    MetFree l mn20 (head1 (Jvm.Cond.code mn20 jdk_43_method_3_code 1 (some .boolean) :: ws) ({ frames := 0, cells := 0, slots := 0, locals := 0 } : Room)) (fun a U => a = #[(.int p1)] ∧ Z.Warmed39 U.vm ∧ U.heap = h0) (fun _ _ _ _ _ => True) (fun _ U o U' => ∃ v L, o = .returned v ∧ Q_rm20_0 Z p1 h0 n0 v U'.heap L ∧ FrameEnd U o U' L ({ frames := 0, cells := 0, slots := 0, locals := 0 } : Room).cells ({ frames := 0, cells := 0, slots := 0, locals := 0 } : Room).slots) := by
  refine MetFree.of_bodySF (plainFor_of_name pn_5) hisR ?_
  intro p e s m args below meth c s₁ Bd hml0 hP hK
  obtain ⟨rfl, hZ, hh⟩ := hP
  have hx := Bd.exec
  have hby := Bd.bytes
  have hml : c.maxLocals = 1 := hml0
  have hown : s.vm.findClass "java/lang/StringLatin1" = some m.cls := findClass_of_methodNamed Bd.named
  have hnm := (name_of_methodNamed Bd.named Bd.method).1
  have X0 : Stand p l e ({ frames := 0, cells := 0, slots := 0, locals := 0 } : Room) s m #[(.int p1)] below meth c s₁ [] 0 0 := Stand.of_body Bd
  have e0 : s₁.heap = h0 := by rw [← hh, Bd.state]; rfl
  have N0 := Fr.nil n0
  have pre0 : ∀ t, SS p e below s₁ m 0 #[iv p1] [] t → Steps p.tables e below (s₁.setTop (entryFrame m #[(.int p1)] 1)) t := fun t k => castTop (ef_20_9 m p1) k
  obtain ⟨fs, hr, hrun, hended, hW, hsame⟩ := X0.leave (v := some (.int (0 : Int32))) (fun h => by rw [Bd.returns] at h; cases h)
  refine ⟨_, _, pre0 _ ?_, hrun, hended, _, _, rfl, ?_, ⟨_, rfl⟩, hW, hsame.mono (by decide) (by decide)⟩
  · show SS p e below s₁ m 0 #[iv p1] [] _
    refine XS.iloadN X0.here hx rfl (hb hby d20_0) rfl ?_
    refine XS.sipush X0.here hx rfl (hb hby d20_1) ?_
    show SS p e below s₁ m 4 #[iv p1] [(.int (255 : Int32)), (.int p1)] _
    refine XS.icmpYes X0.here hx rfl (pc0 := 4) (pc' := 11) rfl (hb hby d20_4) rfl (tlt pr1).2.2.1 (by decide) (by decide) ?_
    show SS p e below s₁ m 11 #[iv p1] [] _
    refine XS.iconst X0.here hx rfl (hb hby d20_11) ?_
    show SS p e below s₁ m 12 #[iv p1] [(.int (0 : Int32))] _
    exact retN X0 hx (t := .boolean) Bd.returns (by simp) (hb hby d20_12) hr
  · show Q_rm20_0 Z p1 h0 n0 _ s₁.heap _
    rw [e0]
    exact ⟨rfl, N0, rfl⟩
theorem pd_9 : parseMethodDescriptor "(C)Z" = some ⟨[.char], some .boolean⟩ := by decide +kernel
theorem d19_10 : decode jdk_42_method_139_code 10 = .ok (.ifCond .eq 16, 3) := by decide +kernel
theorem d19_26 : decode jdk_42_method_139_code 26 = .ok (.new 10, 3) := by decide +kernel
theorem d19_29 : decode jdk_42_method_139_code 29 = .ok (.dup, 1) := by decide +kernel
theorem d19_30 : decode jdk_42_method_139_code 30 = .ok (.iload_n 0, 1) := by decide +kernel
theorem d19_31 : decode jdk_42_method_139_code 31 = .ok (.invokestatic 1021, 3) := by decide +kernel
theorem d21_0 : decode jdk_52_method_24_code 0 = .ok (.iconst 2, 1) := by decide +kernel
theorem d21_1 : decode jdk_52_method_24_code 1 = .ok (.newarray .byte, 2) := by decide +kernel
theorem d21_3 : decode jdk_52_method_24_code 3 = .ok (.astore_n 1, 1) := by decide +kernel
theorem d21_4 : decode jdk_52_method_24_code 4 = .ok (.aload_n 1, 1) := by decide +kernel
theorem d21_5 : decode jdk_52_method_24_code 5 = .ok (.iconst 0, 1) := by decide +kernel
theorem d21_6 : decode jdk_52_method_24_code 6 = .ok (.iload_n 0, 1) := by decide +kernel
theorem d21_7 : decode jdk_52_method_24_code 7 = .ok (.invokestatic 111, 3) := by decide +kernel
theorem d17_0 : decode jdk_52_method_4_code 0 = .ok (.getstatic 44, 3) := by decide +kernel
theorem d17_3 : decode jdk_52_method_4_code 3 = .ok (.ifCond .ne 25, 3) := by decide +kernel
theorem d17_28 : decode jdk_52_method_4_code 28 = .ok (.iload_n 1, 1) := by decide +kernel
theorem d17_29 : decode jdk_52_method_4_code 29 = .ok (.iconst 1, 1) := by decide +kernel
theorem d17_30 : decode jdk_52_method_4_code 30 = .ok (.ishl, 1) := by decide +kernel
theorem d17_31 : decode jdk_52_method_4_code 31 = .ok (.istore_n 1, 1) := by decide +kernel
theorem d17_32 : decode jdk_52_method_4_code 32 = .ok (.aload_n 0, 1) := by decide +kernel
theorem d17_33 : decode jdk_52_method_4_code 33 = .ok (.iload_n 1, 1) := by decide +kernel
theorem d17_34 : decode jdk_52_method_4_code 34 = .ok (.iinc 1 1, 3) := by decide +kernel
theorem d17_37 : decode jdk_52_method_4_code 37 = .ok (.iload_n 2, 1) := by decide +kernel
theorem d17_38 : decode jdk_52_method_4_code 38 = .ok (.getstatic 59, 3) := by decide +kernel
theorem d17_41 : decode jdk_52_method_4_code 41 = .ok (.ishr, 1) := by decide +kernel
theorem d17_42 : decode jdk_52_method_4_code 42 = .ok (.i2b, 1) := by decide +kernel
theorem d17_43 : decode jdk_52_method_4_code 43 = .ok (.bastore, 1) := by decide +kernel
theorem d17_44 : decode jdk_52_method_4_code 44 = .ok (.aload_n 0, 1) := by decide +kernel
theorem d17_45 : decode jdk_52_method_4_code 45 = .ok (.iload_n 1, 1) := by decide +kernel
theorem d17_46 : decode jdk_52_method_4_code 46 = .ok (.iload_n 2, 1) := by decide +kernel
theorem d17_47 : decode jdk_52_method_4_code 47 = .ok (.getstatic 63, 3) := by decide +kernel
theorem d17_50 : decode jdk_52_method_4_code 50 = .ok (.ishr, 1) := by decide +kernel
theorem d17_51 : decode jdk_52_method_4_code 51 = .ok (.i2b, 1) := by decide +kernel
theorem d17_52 : decode jdk_52_method_4_code 52 = .ok (.bastore, 1) := by decide +kernel
theorem d17_53 : decode jdk_52_method_4_code 53 = .ok (.return_, 1) := by decide +kernel
theorem ef_17_10 (m : MethodId) (x0 : Addr) (x2 : Int32) : entryFrame m #[(.ref x0), (.int (0 : Int32)), (.int x2)] 3 = mkF m 0 #[.val (.ref x0), .val (.int (0 : Int32)), .val (.int x2)] [] := by first | (simp [entryFrame, mkF, argsToLocals, Value.category]; done) | rfl
theorem pn_6 : plainName "java/lang/StringUTF16" = true := by first | (simp [plainName, overriddenIn]; done) | decide +kernel
def Q_rm17_0 (Z : State) (a1 : Addr) (p2 : Int32) (k5 : ClassId) (h0 : Heap) (n0 : Nat) (v : Option Value) (h : Heap) (L : List Loc) : Prop := v = none ∧ Fr n0 L ∧ Keep h0 h [a1] ∧ Arv Z h a1 k5 .byte (2 : Int32) [(.int (((p2 >>> ((0 : Int32) &&& 31)).toInt8.toInt32).toInt8.toInt32)), (.int (((p2 >>> ((8 : Int32) &&& 31)).toInt8.toInt32).toInt8.toInt32))] (.int (0 : Int32))
set_option maxRecDepth 65536 in
set_option maxHeartbeats 40000000 in
theorem rm17_0 (l : Launch) (Z : State) (a0 : Array Value) (hw : ∀ d ∈ tables_1, d.before a0 Z = true) (ws : List Jvm.Cond) (a1 : Addr) (p2 : Int32) (k5 : ClassId) (h0 : Heap) (n0 : Nat) (OL0 : Old Z n0 h0) (pr1 : Sta Z Z.heap "java/lang/StringUTF16" "$assertionsDisabled" "Z" (.int (1 : Int32))) (pr2 : Sta Z Z.heap "java/lang/StringUTF16" "HI_BYTE_SHIFT" "I" (.int (0 : Int32))) (pr3 : Arv Z h0 a1 k5 .byte (2 : Int32) [(.int (0 : Int32)), (.int (0 : Int32))] (.int (0 : Int32))) (pr4 : n0 ≤ a1) (pr5 : Sta Z Z.heap "java/lang/StringUTF16" "LO_BYTE_SHIFT" "I" (.int (8 : Int32))) :
    MetFree l mn17 (head1 (Jvm.Cond.code mn17 jdk_52_method_4_code 3 none :: ws) ({ frames := 0, cells := 0, slots := 0, locals := 0 } : Room)) (fun a U => a = #[(.ref a1), (.int (0 : Int32)), (.int p2)] ∧ Z.Warmed39 U.vm ∧ U.heap = h0) (fun _ _ _ _ _ => True) (fun _ U o U' => ∃ v L, o = .returned v ∧ Q_rm17_0 Z a1 p2 k5 h0 n0 v U'.heap L ∧ FrameEnd U o U' L ({ frames := 0, cells := 0, slots := 0, locals := 0 } : Room).cells ({ frames := 0, cells := 0, slots := 0, locals := 0 } : Room).slots) := by
  refine MetFree.of_bodySF (plainFor_of_name pn_6) hisR ?_
  intro p e s m args below meth c s₁ Bd hml0 hP hK
  obtain ⟨rfl, hZ, hh⟩ := hP
  have hx := Bd.exec
  have hby := Bd.bytes
  have hml : c.maxLocals = 3 := hml0
  have hown : s.vm.findClass "java/lang/StringUTF16" = some m.cls := findClass_of_methodNamed Bd.named
  have hnm := (name_of_methodNamed Bd.named Bd.method).1
  have X0 : Stand p l e ({ frames := 0, cells := 0, slots := 0, locals := 0 } : Room) s m #[(.ref a1), (.int (0 : Int32)), (.int p2)] below meth c s₁ [] 0 0 := Stand.of_body Bd
  have e0 : s₁.heap = h0 := by rw [← hh, Bd.state]; rfl
  have N0 := Fr.nil n0
  have pre0 : ∀ t, SS p e below s₁ m 0 #[rv a1, iv (0 : Int32), iv p2] [] t → Steps p.tables e below (s₁.setTop (entryFrame m #[(.ref a1), (.int (0 : Int32)), (.int p2)] 3)) t := fun t k => castTop (ef_17_10 m a1 p2) k
  obtain ⟨T3, X3, e3, st3⟩ := getS2 X0 hx hZ hown (host := "") (Or.inl (wd92 hw)) Via.refl e0 (pr1.ext OL0.2) (g := (mkF m 0 #[rv a1, iv (0 : Int32), iv p2] [])) rfl (hb hby d17_0)
  obtain ⟨T4, X4, e4, st4⟩ := getS2 X3 hx hZ hown (host := "") (Or.inl (wd93 hw)) Via.refl e3 (pr2.ext OL0.2) (g := (mkF m 38 #[rv a1, iv (1 : Int32), iv p2] [(.int p2), (.int (0 : Int32)), (.ref a1)])) rfl (hb hby d17_38)
  obtain ⟨cl6, Ar6, q6, S6, M6, Hs6, G6⟩ := id pr3
  have hin6 : ¬ ((0 : Int32) < 0 ∨ cl6.slots.size ≤ ((0 : Int32)).toNatClampNeg) := inb_of S6 ⟨by decide, by decide⟩
  obtain ⟨T7, h7, X7, e7, W7, st7⟩ := stB X4 hx hZ e4 Ar6 (j := (0 : Int32)) hin6 (g := (mkF m 43 #[rv a1, iv (1 : Int32), iv p2] [(.int ((p2 >>> ((0 : Int32) &&& 31)).toInt8.toInt32)), (.int (0 : Int32)), (.ref a1)])) rfl rfl (hb hby d17_43)
  have V7 : Arv Z h7 a1 k5 .byte (2 : Int32) [(.int (((p2 >>> ((0 : Int32) &&& 31)).toInt8.toInt32).toInt8.toInt32)), (.int (0 : Int32))] (.int (0 : Int32)) := Arv.set Ar6 q6 S6 M6 Hs6 G6 (fits_nar_byte _) W7 0 rfl (Nat.le_of_ble_eq_true rfl)
  have KK7 : Keep h0 h7 [a1] := (Keep.refl h0 [a1]).wr W7 (Or.inl (List.mem_of_getElem? (i := 0) rfl))
  have OL7 := OL0.wr W7 pr4
  have N7 := Fr.snoc X7 N0 pr4
  obtain ⟨T8, X8, e8, st8⟩ := getS2 X7 hx hZ hown (host := "") (Or.inl (wd94 hw)) Via.refl e7 (pr5.ext OL7.2) (g := (mkF m 47 #[rv a1, iv (1 : Int32), iv p2] [(.int p2), (.int (1 : Int32)), (.ref a1)])) rfl (hb hby d17_47)
  obtain ⟨cl9, Ar9, q9, S9, M9, Hs9, G9⟩ := id V7
  have hin9 : ¬ ((1 : Int32) < 0 ∨ cl9.slots.size ≤ ((1 : Int32)).toNatClampNeg) := inb_of S9 ⟨by decide, by decide⟩
  obtain ⟨T10, h10, X10, e10, W10, st10⟩ := stB X8 hx hZ e8 Ar9 (j := (1 : Int32)) hin9 (g := (mkF m 52 #[rv a1, iv (1 : Int32), iv p2] [(.int ((p2 >>> ((8 : Int32) &&& 31)).toInt8.toInt32)), (.int (1 : Int32)), (.ref a1)])) rfl rfl (hb hby d17_52)
  have V10 : Arv Z h10 a1 k5 .byte (2 : Int32) [(.int (((p2 >>> ((0 : Int32) &&& 31)).toInt8.toInt32).toInt8.toInt32)), (.int (((p2 >>> ((8 : Int32) &&& 31)).toInt8.toInt32).toInt8.toInt32))] (.int (0 : Int32)) := Arv.set Ar9 q9 S9 M9 Hs9 G9 (fits_nar_byte _) W10 1 rfl (Nat.le_of_ble_eq_true rfl)
  have KK10 : Keep h0 h10 [a1] := KK7.wr W10 (Or.inl (List.mem_of_getElem? (i := 0) rfl))
  have OL10 := OL7.wr W10 pr4
  have N10 := Fr.snoc X10 N7 pr4
  obtain ⟨fs, hr, hrun, hended, hW, hsame⟩ := X10.leave (v := none) (fun _ => rfl)
  refine ⟨_, _, pre0 _ ?_, hrun, hended, _, _, rfl, ?_, ⟨_, rfl⟩, hW, hsame.mono (by decide) (by decide)⟩
  · show SS p e below s₁ m 0 #[rv a1, iv (0 : Int32), iv p2] [] _
    refine st3 _ ?_
    show SS p e below T3 m 3 #[rv a1, iv (0 : Int32), iv p2] [(.int (1 : Int32))] _
    refine XS.ifYes X3.here hx rfl (pc0 := 3) (pc' := 28) rfl (hb hby d17_3) rfl ((if0 _ _).trans (feq (by decide : ¬ ((1 : Int32) = (0 : Int32)))).2) (by decide) (by decide) ?_
    show SS p e below T3 m 28 #[rv a1, iv (0 : Int32), iv p2] [] _
    refine XS.iloadN X3.here hx rfl (hb hby d17_28) rfl ?_
    refine XS.iconst X3.here hx rfl (hb hby d17_29) ?_
    show SS p e below T3 m 30 #[rv a1, iv (0 : Int32), iv p2] [(.int (1 : Int32)), (.int (0 : Int32))] _
    refine XS.ishl X3.here hx rfl (hb hby d17_30) rfl ?_
    show SS p e below T3 m 31 #[rv a1, iv (0 : Int32), iv p2] [(.int (0 : Int32))] _
    refine XS.istoreN X3.here hx rfl (hb hby d17_31) rfl (l' := #[rv a1, iv (0 : Int32), iv p2]) rfl ?_
    refine XS.aloadN X3.here hx rfl (hb hby d17_32) rfl rfl ?_
    refine XS.iloadN X3.here hx rfl (hb hby d17_33) rfl ?_
    show SS p e below T3 m 34 #[rv a1, iv (0 : Int32), iv p2] [(.int (0 : Int32)), (.ref a1)] _
    refine XS.iinc X3.here hx rfl (hb hby d17_34) rfl (l' := #[rv a1, .val (.int ((0 : Int32) + (1 : Int32))), iv p2]) rfl ?_
    show SS p e below T3 m 37 #[rv a1, iv (1 : Int32), iv p2] [(.int (0 : Int32)), (.ref a1)] _
    refine XS.iloadN X3.here hx rfl (hb hby d17_37) rfl ?_
    show SS p e below T3 m 38 #[rv a1, iv (1 : Int32), iv p2] [(.int p2), (.int (0 : Int32)), (.ref a1)] _
    refine st4 _ ?_
    show SS p e below T4 m 41 #[rv a1, iv (1 : Int32), iv p2] [(.int (0 : Int32)), (.int p2), (.int (0 : Int32)), (.ref a1)] _
    refine XS.ishr X4.here hx rfl (hb hby d17_41) rfl ?_
    show SS p e below T4 m 42 #[rv a1, iv (1 : Int32), iv p2] [(.int (p2 >>> ((0 : Int32) &&& 31))), (.int (0 : Int32)), (.ref a1)] _
    refine XS.i2b X4.here hx rfl (hb hby d17_42) rfl ?_
    show SS p e below T4 m 43 #[rv a1, iv (1 : Int32), iv p2] [(.int ((p2 >>> ((0 : Int32) &&& 31)).toInt8.toInt32)), (.int (0 : Int32)), (.ref a1)] _
    refine st7 _ ?_
    show SS p e below T7 m 44 #[rv a1, iv (1 : Int32), iv p2] [] _
    refine XS.aloadN X7.here hx rfl (hb hby d17_44) rfl rfl ?_
    refine XS.iloadN X7.here hx rfl (hb hby d17_45) rfl ?_
    refine XS.iloadN X7.here hx rfl (hb hby d17_46) rfl ?_
    show SS p e below T7 m 47 #[rv a1, iv (1 : Int32), iv p2] [(.int p2), (.int (1 : Int32)), (.ref a1)] _
    refine st8 _ ?_
    show SS p e below T8 m 50 #[rv a1, iv (1 : Int32), iv p2] [(.int (8 : Int32)), (.int p2), (.int (1 : Int32)), (.ref a1)] _
    refine XS.ishr X8.here hx rfl (hb hby d17_50) rfl ?_
    show SS p e below T8 m 51 #[rv a1, iv (1 : Int32), iv p2] [(.int (p2 >>> ((8 : Int32) &&& 31))), (.int (1 : Int32)), (.ref a1)] _
    refine XS.i2b X8.here hx rfl (hb hby d17_51) rfl ?_
    show SS p e below T8 m 52 #[rv a1, iv (1 : Int32), iv p2] [(.int ((p2 >>> ((8 : Int32) &&& 31)).toInt8.toInt32)), (.int (1 : Int32)), (.ref a1)] _
    refine st10 _ ?_
    show SS p e below T10 m 53 #[rv a1, iv (1 : Int32), iv p2] [] _
    exact X10.returnOut hx Bd.returns (hb hby d17_53) hr
  · show Q_rm17_0 Z a1 p2 k5 h0 n0 _ T10.heap _
    rw [e10]
    exact ⟨rfl, N10, KK10, V10⟩
theorem pd_10 : parseMethodDescriptor "([BII)V" = some ⟨[(.array .byte), .int, .int], none⟩ := by decide +kernel
theorem d21_10 : decode jdk_52_method_24_code 10 = .ok (.aload_n 1, 1) := by decide +kernel
theorem d21_11 : decode jdk_52_method_24_code 11 = .ok (.areturn, 1) := by decide +kernel
theorem ef_21_11 (m : MethodId) (x0 : Int32) : entryFrame m #[(.int x0)] 2 = mkF m 0 #[.val (.int x0), .unset] [] := by first | (simp [entryFrame, mkF, argsToLocals, Value.category]; done) | rfl
def Q_rm21_0 (Z : State) (p1 : Int32) (h0 : Heap) (n0 : Nat) (v : Option Value) (h : Heap) (L : List Loc) : Prop := ∃ b2 : Addr, ∃ k2 : ClassId, v = some (.ref b2) ∧ Fr n0 L ∧ Keep h0 h [] ∧ h0.size ≤ b2 ∧ Arv Z h b2 k2 .byte (2 : Int32) [(.int (((p1 >>> ((0 : Int32) &&& 31)).toInt8.toInt32).toInt8.toInt32)), (.int (((p1 >>> ((8 : Int32) &&& 31)).toInt8.toInt32).toInt8.toInt32))] (.int (0 : Int32))
set_option maxRecDepth 65536 in
set_option maxHeartbeats 40000000 in
theorem rm21_0 (l : Launch) (Z : State) (a0 : Array Value) (hw : ∀ d ∈ tables_1, d.before a0 Z = true) (ws : List Jvm.Cond) (p1 : Int32) (h0 : Heap) (n0 : Nat) (OL0 : Old Z n0 h0) (pr1 : Sta Z Z.heap "java/lang/StringUTF16" "$assertionsDisabled" "Z" (.int (1 : Int32))) (pr2 : Sta Z Z.heap "java/lang/StringUTF16" "HI_BYTE_SHIFT" "I" (.int (0 : Int32))) (pr3 : Sta Z Z.heap "java/lang/StringUTF16" "LO_BYTE_SHIFT" "I" (.int (8 : Int32))) :
    MetFree l mn21 (head1 (Jvm.Cond.code mn21 jdk_52_method_24_code 2 (some (.array .byte)) :: ws) ({ frames := 1, cells := 1, slots := 2, locals := 14 } : Room)) (fun a U => a = #[(.int p1)] ∧ Z.Warmed39 U.vm ∧ U.heap = h0) (fun _ _ _ _ _ => True) (fun _ U o U' => ∃ v L, o = .returned v ∧ Q_rm21_0 Z p1 h0 n0 v U'.heap L ∧ FrameEnd U o U' L ({ frames := 1, cells := 1, slots := 2, locals := 14 } : Room).cells ({ frames := 1, cells := 1, slots := 2, locals := 14 } : Room).slots) := by
  refine MetFree.of_bodySF (plainFor_of_name pn_6) hisR ?_
  intro p e s m args below meth c s₁ Bd hml0 hP hK
  obtain ⟨rfl, hZ, hh⟩ := hP
  have hx := Bd.exec
  have hby := Bd.bytes
  have hml : c.maxLocals = 2 := hml0
  have hown : s.vm.findClass "java/lang/StringUTF16" = some m.cls := findClass_of_methodNamed Bd.named
  have hnm := (name_of_methodNamed Bd.named Bd.method).1
  have X0 : Stand p l e ({ frames := 1, cells := 1, slots := 2, locals := 14 } : Room) s m #[(.int p1)] below meth c s₁ [] 0 0 := Stand.of_body Bd
  have e0 : s₁.heap = h0 := by rw [← hh, Bd.state]; rfl
  have N0 := Fr.nil n0
  have pre0 : ∀ t, SS p e below s₁ m 0 #[iv p1, .unset] [] t → Steps p.tables e below (s₁.setTop (entryFrame m #[(.int p1)] 2)) t := fun t k => castTop (ef_21_11 m p1) k
  obtain ⟨T2, h2, k2, X2, e2, E2, A2, st2⟩ := newP (aty := .byte) X0 hx hZ (wd24 hw) e0 (g := (mkF m 1 #[iv p1, .unset] [(.int (2 : Int32))])) rfl (hb hby d21_1) rfl (by decide) (cap := 2) (by decide) (by decide) (by decide) (by decide)
  obtain ⟨b2, g2⟩ : ∃ z, z = h0.size := ⟨_, rfl⟩
  rw [← g2] at A2 st2
  have V2 : Arv Z h2 b2 k2 .byte (2 : Int32) [(.int (0 : Int32)), (.int (0 : Int32))] (.int (0 : Int32)) := (Arv.new A2 (by decide)).pad (pad_rep [] (.int (0 : Int32)) 2)
  have g_b2 : n0 ≤ b2 := (Nat.le_trans (Nat.le_trans (Nat.le_of_eq OL0.1.symm) OL0.2.1) (Nat.le_of_eq g2.symm))
  have sz_b2 : h0.size ≤ b2 := (Nat.le_trans (Keep.refl h0 []).1 (Nat.le_of_eq g2.symm))
  have KK2 : Keep h0 h2 [] := (Keep.refl h0 []).ext E2
  have OL2 := OL0.ext E2
  obtain ⟨_, _, ⟨T3, L3, k3, n3⟩, -, X3, ⟨Lc3, hQ3, l3, y3, z3⟩, st3⟩ := Jvm.LawKit.callS X2 hx (y := mn17) hown (mvT hZ (wd89 hw)) (mvT hZ (wd90 hw)) (mvT hZ (wd22 hw)) (mvT hZ (wd91 hw)) (by decide) (backOf (W := 0) (rm17_0 l Z a0 hw [] b2 p1 k2 h2 n0 OL2 pr1 pr2 V2 g_b2 pr3) hZ (wd91 hw) (wd22 hw) (by decide) (by decide)) (g := (mkF m 7 #[iv p1, rv b2] [(.int p1), (.int (0 : Int32)), (.ref b2)])) rfl (by rw [hml]; rfl) (argsL := [(.ref b2), (.int (0 : Int32)), (.int p1)]) (rest := []) (lenOf pd_10 rfl) rfl (by show 2 * 0 + _ ≤ _; exact Nat.le_of_eq rfl) (hb hby d21_7) (fun _ _ => ⟨rfl, e2, (by decide : 1 + 0 ≤ _), (by decide : 2 + 0 ≤ _)⟩)
  dsimp only [Pt.U, Pt.locs, Pt.cells, Pt.slots] at X3 l3 y3 z3 st3 hQ3
  subst l3 y3 z3
  obtain ⟨rfl, Nq3, K3, u3_0⟩ := hQ3
  have KK3 : Keep h0 T3.heap [] := KK2.trans K3 (allS (Or.inr sz_b2) all0)
  have OL3 := OL2.keep K3 (allS g_b2 all0)
  have N3 := Fr.app N0 Nq3
  obtain ⟨fs, hr, hrun, hended, hW, hsame⟩ := X3.leave (v := some (.ref b2)) (fun h => by rw [Bd.returns] at h; cases h)
  refine ⟨_, _, pre0 _ ?_, hrun, hended, _, _, rfl, ?_, ⟨_, rfl⟩, hW, hsame.mono (by decide) (by decide)⟩
  · show SS p e below s₁ m 0 #[iv p1, .unset] [] _
    refine XS.iconst X0.here hx rfl (hb hby d21_0) ?_
    show SS p e below s₁ m 1 #[iv p1, .unset] [(.int (2 : Int32))] _
    refine st2 _ ?_
    show SS p e below T2 m 3 #[iv p1, .unset] [(.ref b2)] _
    refine XS.astoreN X2.here hx rfl (hb hby d21_3) rfl rfl (l' := #[iv p1, rv b2]) rfl ?_
    refine XS.aloadN X2.here hx rfl (hb hby d21_4) rfl rfl ?_
    refine XS.iconst X2.here hx rfl (hb hby d21_5) ?_
    refine XS.iloadN X2.here hx rfl (hb hby d21_6) rfl ?_
    show SS p e below T2 m 7 #[iv p1, rv b2] [(.int p1), (.int (0 : Int32)), (.ref b2)] _
    refine st3 _ ?_
    show SS p e below T3 m 10 #[iv p1, rv b2] [] _
    refine XS.aloadN X3.here hx rfl (hb hby d21_10) rfl rfl ?_
    show SS p e below T3 m 11 #[iv p1, rv b2] [(.ref b2)] _
    jvm_step X3.here [X3.here.top, hx, (hb hby d21_11), X3.method', Bd.returns, Value.isRef, FieldType.isReference]
    first | (intro acts; rw [hr _ acts rfl rfl rfl]) | rw [hr _ _ rfl rfl rfl]
    exact Steps.refl _
  · show Q_rm21_0 Z p1 h0 n0 _ T3.heap _
    exact ⟨b2, k2, rfl, N3, KK3, sz_b2, u3_0⟩
theorem pd_11 : parseMethodDescriptor "(C)[B" = some ⟨[.char], some (.array .byte)⟩ := by decide +kernel
theorem d19_34 : decode jdk_42_method_139_code 34 = .ok (.iconst 1, 1) := by decide +kernel
theorem d19_35 : decode jdk_42_method_139_code 35 = .ok (.invokespecial 209, 3) := by decide +kernel
theorem d22_0 : decode jdk_42_method_151_code 0 = .ok (.aload_n 0, 1) := by decide +kernel
theorem d22_1 : decode jdk_42_method_151_code 1 = .ok (.invokespecial 1, 3) := by decide +kernel
theorem d22_4 : decode jdk_42_method_151_code 4 = .ok (.aload_n 0, 1) := by decide +kernel
theorem d22_5 : decode jdk_42_method_151_code 5 = .ok (.aload_n 1, 1) := by decide +kernel
theorem d22_6 : decode jdk_42_method_151_code 6 = .ok (.putfield 9, 3) := by decide +kernel
theorem d22_9 : decode jdk_42_method_151_code 9 = .ok (.aload_n 0, 1) := by decide +kernel
theorem d22_10 : decode jdk_42_method_151_code 10 = .ok (.iload_n 2, 1) := by decide +kernel
theorem d22_11 : decode jdk_42_method_151_code 11 = .ok (.putfield 15, 3) := by decide +kernel
theorem d22_14 : decode jdk_42_method_151_code 14 = .ok (.return_, 1) := by decide +kernel
theorem ef_22_12 (m : MethodId) (x0 : Addr) (x1 : Addr) : entryFrame m #[(.ref x0), (.ref x1), (.int (1 : Int32))] 3 = mkF m 0 #[.val (.ref x0), .val (.ref x1), .val (.int (1 : Int32))] [] := by first | (simp [entryFrame, mkF, argsToLocals, Value.category]; done) | rfl
def Q_rm22_0 (Z : State) (a1 : Addr) (a2 : Addr) (h0 : Heap) (n0 : Nat) (v : Option Value) (h : Heap) (L : List Loc) : Prop := v = none ∧ Fr n0 L ∧ Keep h0 h [a1] ∧ Fld Z h a1 "java/lang/String" "value" "[B" (.ref a2) ∧ Fld Z h a1 "java/lang/String" "coder" "B" (.int (1 : Int32))
set_option maxRecDepth 65536 in
set_option maxHeartbeats 40000000 in
theorem rm22_0 (l : Launch) (Z : State) (a0 : Array Value) (hw : ∀ d ∈ tables_1, d.before a0 Z = true) (ws : List Jvm.Cond) (a1 : Addr) (a2 : Addr) (h0 : Heap) (n0 : Nat) (OL0 : Old Z n0 h0) (pr1 : Exa Z h0 a1 "java/lang/String") (pr2 : Fld Z h0 a1 "java/lang/String" "value" "[B" .null) (pr3 : n0 ≤ a1) (pr4 : Fld Z h0 a1 "java/lang/String" "coder" "B" (.int (0 : Int32))) :
    MetFree l mn22 (head1 (Jvm.Cond.code mn22 jdk_42_method_151_code 3 none :: ws) ({ frames := 1, cells := 0, slots := 0, locals := 12 } : Room)) (fun a U => a = #[(.ref a1), (.ref a2), (.int (1 : Int32))] ∧ Z.Warmed39 U.vm ∧ U.heap = h0) (fun _ _ _ _ _ => True) (fun _ U o U' => ∃ v L, o = .returned v ∧ Q_rm22_0 Z a1 a2 h0 n0 v U'.heap L ∧ FrameEnd U o U' L ({ frames := 1, cells := 0, slots := 0, locals := 12 } : Room).cells ({ frames := 1, cells := 0, slots := 0, locals := 12 } : Room).slots) := by
  refine MetFree.of_bodySF (plainFor_of_name pn_0) hisR ?_
  intro p e s m args below meth c s₁ Bd hml0 hP hK
  obtain ⟨rfl, hZ, hh⟩ := hP
  have hx := Bd.exec
  have hby := Bd.bytes
  have hml : c.maxLocals = 3 := hml0
  have hown : s.vm.findClass "java/lang/String" = some m.cls := findClass_of_methodNamed Bd.named
  have hnm := (name_of_methodNamed Bd.named Bd.method).1
  have X0 : Stand p l e ({ frames := 1, cells := 0, slots := 0, locals := 12 } : Room) s m #[(.ref a1), (.ref a2), (.int (1 : Int32))] below meth c s₁ [] 0 0 := Stand.of_body Bd
  have e0 : s₁.heap = h0 := by rw [← hh, Bd.state]; rfl
  have N0 := Fr.nil n0
  have pre0 : ∀ t, SS p e below s₁ m 0 #[rv a1, rv a2, iv (1 : Int32)] [] t → Steps p.tables e below (s₁.setTop (entryFrame m #[(.ref a1), (.ref a2), (.int (1 : Int32))] 3)) t := fun t k => castTop (ef_22_12 m a1 a2) k
  obtain ⟨T3, X3, e3, st3⟩ := initO X0 hx hZ hown (wd16 hw) (wd17 hw) (wd18 hw) e0 (g := (mkF m 1 #[rv a1, rv a2, iv (1 : Int32)] [(.ref a1)])) rfl (by rw [hml]; rfl) rfl (hb hby d22_1) (by decide) (W := 0) (by show 2 * 0 + _ ≤ _; exact Nat.le_of_eq rfl) (by decide)
  obtain ⟨T4, h4, X4, e4, W4, st4⟩ := putF X3 hx hZ hown (host := "") (Or.inl (wd33 hw)) Via.refl e3 pr2 pr1 (Or.inr ⟨(wd34 hw), rfl, hnm⟩) (wd6 hw) (ty := (.array .byte)) (by decide) rfl rfl (g := (mkF m 6 #[rv a1, rv a2, iv (1 : Int32)] [(.ref a2), (.ref a1)])) rfl rfl (hb hby d22_6)
  have Fw4 := pr2.same W4
  have KK4 : Keep h0 h4 [a1] := (Keep.refl h0 [a1]).wr W4 (Or.inl (List.mem_of_getElem? (i := 0) rfl))
  have OL4 := OL0.wr W4 pr3
  have N4 := Fr.snoc X4 N0 pr3
  have fc5 := (pr1.wr W4)
  have fc6 := (pr4.other W4 (Or.inr (slot_ne (Or.inr (wd32 hw)) (Or.inr (wd34 hw)) (by decide) (t := .byte) (t' := (.array .byte)) (by decide) (by decide))))
  obtain ⟨T7, h7, X7, e7, W7, st7⟩ := putFN X4 hx hZ hown (wd31 hw) Via.refl e4 fc6 fc5 (Or.inr ⟨(wd32 hw), rfl, hnm⟩) (wd6 hw) (ty := .byte) (v' := (.int (1 : Int32))) (by decide) rfl rfl (g := (mkF m 11 #[rv a1, rv a2, iv (1 : Int32)] [(.int (1 : Int32)), (.ref a1)])) rfl rfl (hb hby d22_11)
  have Fw7 := fc6.same W7
  have KK7 : Keep h0 h7 [a1] := KK4.wr W7 (Or.inl (List.mem_of_getElem? (i := 0) rfl))
  have OL7 := OL4.wr W7 pr3
  have N7 := Fr.snoc X7 N4 pr3
  have fc8 := (Fw4.other W7 (Or.inr (slot_ne (Or.inr (wd34 hw)) (Or.inr (wd32 hw)) (by decide) (t := (.array .byte)) (t' := .byte) (by decide) (by decide))))
  obtain ⟨fs, hr, hrun, hended, hW, hsame⟩ := X7.leave (v := none) (fun _ => rfl)
  refine ⟨_, _, pre0 _ ?_, hrun, hended, _, _, rfl, ?_, ⟨_, rfl⟩, hW, hsame.mono (by decide) (by decide)⟩
  · show SS p e below s₁ m 0 #[rv a1, rv a2, iv (1 : Int32)] [] _
    refine XS.aloadN X0.here hx rfl (hb hby d22_0) rfl rfl ?_
    show SS p e below s₁ m 1 #[rv a1, rv a2, iv (1 : Int32)] [(.ref a1)] _
    refine st3 _ ?_
    show SS p e below T3 m 4 #[rv a1, rv a2, iv (1 : Int32)] [] _
    refine XS.aloadN X3.here hx rfl (hb hby d22_4) rfl rfl ?_
    refine XS.aloadN X3.here hx rfl (hb hby d22_5) rfl rfl ?_
    show SS p e below T3 m 6 #[rv a1, rv a2, iv (1 : Int32)] [(.ref a2), (.ref a1)] _
    refine st4 _ ?_
    show SS p e below T4 m 9 #[rv a1, rv a2, iv (1 : Int32)] [] _
    refine XS.aloadN X4.here hx rfl (hb hby d22_9) rfl rfl ?_
    refine XS.iloadN X4.here hx rfl (hb hby d22_10) rfl ?_
    show SS p e below T4 m 11 #[rv a1, rv a2, iv (1 : Int32)] [(.int (1 : Int32)), (.ref a1)] _
    refine st7 _ ?_
    show SS p e below T7 m 14 #[rv a1, rv a2, iv (1 : Int32)] [] _
    exact X7.returnOut hx Bd.returns (hb hby d22_14) hr
  · show Q_rm22_0 Z a1 a2 h0 n0 _ T7.heap _
    rw [e7]
    exact ⟨rfl, N7, KK7, fc8, Fw7⟩
theorem pd_12 : parseMethodDescriptor "([BB)V" = some ⟨[(.array .byte), .byte], none⟩ := by decide +kernel
theorem d19_38 : decode jdk_42_method_139_code 38 = .ok (.areturn, 1) := by decide +kernel
theorem ef_19_13 (m : MethodId) (x0 : Int32) : entryFrame m #[(.int x0)] 1 = mkF m 0 #[.val (.int x0)] [] := by first | (simp [entryFrame, mkF, argsToLocals, Value.category]; done) | rfl
def Q_rm19_0 (Z : State) (p1 : Int32) (p2 : Int32) (h0 : Heap) (n0 : Nat) (v : Option Value) (h : Heap) (L : List Loc) : Prop := ∃ b5 : Addr, ∃ b6_0 : Addr, ∃ kx6_0 : ClassId, v = some (.ref b5) ∧ Fr n0 L ∧ Keep h0 h [] ∧ h0.size ≤ b5 ∧ h0.size ≤ b6_0 ∧ b5 ≠ b6_0 ∧ Exa Z h b5 "java/lang/String" ∧ Fld Z h b5 "java/lang/String" "coder" "B" (.int (1 : Int32)) ∧ Fld Z h b5 "java/lang/String" "value" "[B" (.ref b6_0) ∧ Arv Z h b6_0 kx6_0 .byte (2 : Int32) [(.int (((p1 >>> ((0 : Int32) &&& 31)).toInt8.toInt32).toInt8.toInt32)), (.int (((p1 >>> ((8 : Int32) &&& 31)).toInt8.toInt32).toInt8.toInt32))] (.int (0 : Int32))
set_option maxRecDepth 65536 in
set_option maxHeartbeats 40000000 in
theorem rm19_0 (l : Launch) (Z : State) (a0 : Array Value) (hw : ∀ d ∈ tables_1, d.before a0 Z = true) (ws : List Jvm.Cond) (p1 : Int32) (p2 : Int32) (h0 : Heap) (n0 : Nat) (OL0 : Old Z n0 h0) (pr1 : Sta Z Z.heap "java/lang/String" "COMPACT_STRINGS" "Z" (.int p2)) (pr2 : ¬ (p2 = (0 : Int32))) (pr3 : (255 : Int32) < p1) (pr4 : Sta Z Z.heap "java/lang/StringUTF16" "$assertionsDisabled" "Z" (.int (1 : Int32))) (pr5 : Sta Z Z.heap "java/lang/StringUTF16" "HI_BYTE_SHIFT" "I" (.int (0 : Int32))) (pr6 : Sta Z Z.heap "java/lang/StringUTF16" "LO_BYTE_SHIFT" "I" (.int (8 : Int32))) :
    MetFree l mn19 (head1 (Jvm.Cond.code mn19 jdk_42_method_139_code 1 (some (.object "java/lang/String")) :: ws) ({ frames := 2, cells := 2, slots := 6, locals := 29 } : Room)) (fun a U => a = #[(.int p1)] ∧ Z.Warmed39 U.vm ∧ U.heap = h0) (fun _ _ _ _ _ => True) (fun _ U o U' => ∃ v L, o = .returned v ∧ Q_rm19_0 Z p1 p2 h0 n0 v U'.heap L ∧ FrameEnd U o U' L ({ frames := 2, cells := 2, slots := 6, locals := 29 } : Room).cells ({ frames := 2, cells := 2, slots := 6, locals := 29 } : Room).slots) := by
  refine MetFree.of_bodySF (plainFor_of_name pn_0) hisR ?_
  intro p e s m args below meth c s₁ Bd hml0 hP hK
  obtain ⟨rfl, hZ, hh⟩ := hP
  have hx := Bd.exec
  have hby := Bd.bytes
  have hml : c.maxLocals = 1 := hml0
  have hown : s.vm.findClass "java/lang/String" = some m.cls := findClass_of_methodNamed Bd.named
  have hnm := (name_of_methodNamed Bd.named Bd.method).1
  have X0 : Stand p l e ({ frames := 2, cells := 2, slots := 6, locals := 29 } : Room) s m #[(.int p1)] below meth c s₁ [] 0 0 := Stand.of_body Bd
  have e0 : s₁.heap = h0 := by rw [← hh, Bd.state]; rfl
  have N0 := Fr.nil n0
  have pre0 : ∀ t, SS p e below s₁ m 0 #[iv p1] [] t → Steps p.tables e below (s₁.setTop (entryFrame m #[(.int p1)] 1)) t := fun t k => castTop (ef_19_13 m p1) k
  obtain ⟨T3, X3, e3, st3⟩ := getS2 X0 hx hZ hown (host := "") (Or.inl (wd19 hw)) Via.refl e0 (pr1.ext OL0.2) (g := (mkF m 0 #[iv p1] [])) rfl (hb hby d19_0)
  obtain ⟨_, _, ⟨T4, L4, k4, n4⟩, -, X4, ⟨Lc4, hQ4, l4, y4, z4⟩, st4⟩ := Jvm.LawKit.callS X3 hx (y := mn20) hown (mvT hZ (wd101 hw)) (mvT hZ (wd102 hw)) (mvT hZ (wd103 hw)) (mvT hZ (wd104 hw)) (by decide) (backOf (W := 0) (rm20_0 l Z a0 hw [] p1 h0 n0 OL0 pr3) hZ (wd104 hw) (wd103 hw) (by decide) (by decide)) (g := (mkF m 7 #[iv p1] [(.int p1)])) rfl (by rw [hml]; rfl) (argsL := [(.int p1)]) (rest := []) (lenOf pd_9 rfl) rfl (by show 2 * 0 + _ ≤ _; exact Nat.le_of_eq rfl) (hb hby d19_7) (fun _ _ => ⟨rfl, e3, (by decide : 0 + 0 ≤ _), (by decide : 0 + 0 ≤ _)⟩)
  dsimp only [Pt.U, Pt.locs, Pt.cells, Pt.slots] at X4 l4 y4 z4 st4 hQ4
  subst l4 y4 z4
  obtain ⟨rfl, Nq4, ec4⟩ := hQ4
  have N4 := Fr.app N0 Nq4
  obtain ⟨T5, h5, X5, e5, E5, A5, D5, -, st5⟩ := newO X4 hx hZ hown (wd105 hw) (wd6 hw) (wd7 hw) ec4 (g := (mkF m 26 #[iv p1] [])) rfl (hb hby d19_26) (by decide) (by decide)
  obtain ⟨b5, g5⟩ : ∃ z, z = h0.size := ⟨_, rfl⟩
  rw [← g5] at A5 D5 st5
  have g_b5 : n0 ≤ b5 := (Nat.le_trans (Nat.le_trans (Nat.le_of_eq OL0.1.symm) OL0.2.1) (Nat.le_of_eq g5.symm))
  have sz_b5 : h0.size ≤ b5 := (Nat.le_trans (Keep.refl h0 []).1 (Nat.le_of_eq g5.symm))
  have KK5 : Keep h0 h5 [] := (Keep.refl h0 []).ext E5
  have OL5 := OL0.ext E5
  have F_coder_b5 : Fld Z h5 b5 "java/lang/String" "coder" "B" (.int (0 : Int32)) := D5 (Or.inr (wd32 hw)) (ty := .byte) (by decide)
  have F_value_b5 : Fld Z h5 b5 "java/lang/String" "value" "[B" .null := D5 (Or.inr (wd34 hw)) (ty := (.array .byte)) (by decide)
  obtain ⟨_, _, ⟨T6, L6, k6, n6⟩, -, X6, ⟨Lc6, hQ6, l6, y6, z6⟩, st6⟩ := Jvm.LawKit.callS X5 hx (y := mn21) hown (mvT hZ (wd106 hw)) (mvT hZ (wd107 hw)) (mvT hZ (wd22 hw)) (mvT hZ (wd108 hw)) (by decide) (backOf (W := 2) (rm21_0 l Z a0 hw [] p1 h5 n0 OL5 pr4 pr5 pr6) hZ (wd108 hw) (wd22 hw) (by decide) (by decide)) (g := (mkF m 31 #[iv p1] [(.int p1), (.ref b5), (.ref b5)])) rfl (by rw [hml]; rfl) (argsL := [(.int p1)]) (rest := [(.ref b5), (.ref b5)]) (lenOf pd_11 rfl) rfl (by show 2 * 0 + _ ≤ _; exact Nat.le_of_eq rfl) (hb hby d19_31) (fun _ _ => ⟨rfl, e5, (by decide : 1 + 1 ≤ _), (by decide : 4 + 2 ≤ _)⟩)
  dsimp only [Pt.U, Pt.locs, Pt.cells, Pt.slots] at X6 l6 y6 z6 st6 hQ6
  subst l6 y6 z6
  obtain ⟨b6_0, kx6_0, rfl, Nq6, K6, u6_0, u6_1⟩ := hQ6
  have KK6 : Keep h0 T6.heap [] := KK5.trans K6 all0
  have OL6 := OL5.keep K6 all0
  have g_b6_0 : n0 ≤ b6_0 := Nat.le_trans (Nat.le_trans (Nat.le_of_eq OL5.1.symm) OL5.2.1) u6_0
  have sz_b6_0 : h0.size ≤ b6_0 := Nat.le_trans KK5.1 u6_0
  have N6 := Fr.app N4 Nq6
  have fc8 := (A5.keep K6)
  have fc9 := (F_value_b5.keep K6 nin0)
  have fc10 := (F_coder_b5.keep K6 nin0)
  obtain ⟨_, _, ⟨T7, L7, k7, n7⟩, -, X7, ⟨Lc7, hQ7, l7, y7, z7⟩, st7⟩ := X6.specialBack hx (y := mn22) rfl hown (mvT hZ (wd109 hw)) (mvT hZ (wd110 hw)) (mvT hZ (wd111 hw)) (by decide) (backOf (W := 1) (rm22_0 l Z a0 hw [] b5 b6_0 T6.heap n0 OL6 fc8 fc9 g_b5 fc10) hZ (wd111 hw) (wd7 hw) (by decide) (by decide)) (g := (mkF m 35 #[iv p1] [(.int (1 : Int32)), (.ref b6_0), (.ref b5), (.ref b5)])) rfl (by rw [hml]; rfl) (Steps.refl _) (a := b5) (argsL := [(.ref b6_0), (.int (1 : Int32))]) (rest := [(.ref b5)]) (lenOf pd_12 rfl) rfl (by show 2 * 0 + _ ≤ _; exact Nat.le_of_eq rfl) (hb hby d19_35) (fun _ _ => ⟨rfl, rfl, (by decide : 2 + 0 ≤ _), (by decide : 6 + 0 ≤ _)⟩)
  dsimp only [Pt.U, Pt.locs, Pt.cells, Pt.slots] at X7 l7 y7 z7 st7 hQ7
  subst l7 y7 z7
  obtain ⟨rfl, Nq7, K7, u7_0, u7_1⟩ := hQ7
  have KK7 : Keep h0 T7.heap [] := KK6.trans K7 (allS (Or.inr sz_b5) all0)
  have OL7 := OL6.keep K7 (allS g_b5 all0)
  have N7 := Fr.app N6 Nq7
  have fc11 := (fc8.keep K7)
  have fc12 := (u6_1.keep K7 (ninS (Ne.symm (Nat.ne_of_lt (Nat.lt_of_lt_of_le F_value_b5.lt u6_0))) nin0))
  obtain ⟨fs, hr, hrun, hended, hW, hsame⟩ := X7.leave (v := some (.ref b5)) (fun h => by rw [Bd.returns] at h; cases h)
  refine ⟨_, _, pre0 _ ?_, hrun, hended, _, _, rfl, ?_, ⟨_, rfl⟩, hW, hsame.mono (by decide) (by decide)⟩
  · show SS p e below s₁ m 0 #[iv p1] [] _
    refine st3 _ ?_
    show SS p e below T3 m 3 #[iv p1] [(.int p2)] _
    refine XS.ifNo X3.here hx rfl (hb hby d19_3) rfl ((if0 _ _).trans (feq pr2).1) ?_
    show SS p e below T3 m 6 #[iv p1] [] _
    refine XS.iloadN X3.here hx rfl (hb hby d19_6) rfl ?_
    show SS p e below T3 m 7 #[iv p1] [(.int p1)] _
    refine st4 _ ?_
    show SS p e below T4 m 10 #[iv p1] [(.int (0 : Int32))] _
    refine XS.ifYes X4.here hx rfl (pc0 := 10) (pc' := 26) rfl (hb hby d19_10) rfl ((if0 _ _).trans (teq (rfl : (0 : Int32) = (0 : Int32))).1) (by decide) (by decide) ?_
    show SS p e below T4 m 26 #[iv p1] [] _
    refine st5 _ ?_
    show SS p e below T5 m 29 #[iv p1] [(.ref b5)] _
    refine XS.dup X5.here hx rfl (hb hby d19_29) rfl rfl ?_
    refine XS.iloadN X5.here hx rfl (hb hby d19_30) rfl ?_
    show SS p e below T5 m 31 #[iv p1] [(.int p1), (.ref b5), (.ref b5)] _
    refine st6 _ ?_
    show SS p e below T6 m 34 #[iv p1] [(.ref b6_0), (.ref b5), (.ref b5)] _
    refine XS.iconst X6.here hx rfl (hb hby d19_34) ?_
    show SS p e below T6 m 35 #[iv p1] [(.int (1 : Int32)), (.ref b6_0), (.ref b5), (.ref b5)] _
    refine st7.trans ?_
    show SS p e below T7 m 38 #[iv p1] [(.ref b5)] _
    jvm_step X7.here [X7.here.top, hx, (hb hby d19_38), X7.method', Bd.returns, Value.isRef, FieldType.isReference]
    first | (intro acts; rw [hr _ acts rfl rfl rfl]) | rw [hr _ _ rfl rfl rfl]
    exact Steps.refl _
  · show Q_rm19_0 Z p1 p2 h0 n0 _ T7.heap _
    exact ⟨b5, b6_0, kx6_0, rfl, N7, KK7, sz_b5, sz_b6_0, (Nat.ne_of_lt (Nat.lt_of_lt_of_le F_value_b5.lt u6_0)), fc11, u7_1, u7_0, fc12⟩
theorem pd_13 : parseMethodDescriptor "(C)Ljava/lang/String;" = some ⟨[.char], some (.object "java/lang/String")⟩ := by decide +kernel
theorem d1_24 : decode method_2_code 24 = .ok (.areturn, 1) := by decide +kernel
theorem ef_1_14 (m : MethodId) (x1 : Int32) (x2 : Int32) (x3 : Int32) : entryFrame m #[(.int (1 : Int32)), (.int x1), (.int x2), (.int x3)] 4 = mkF m 0 #[.val (.int (1 : Int32)), .val (.int x1), .val (.int x2), .val (.int x3)] [] := by first | (simp [entryFrame, mkF, argsToLocals, Value.category]; done) | rfl
def Q_rm1_1 (Z : State) (p1 : Int32) (p2 : Int32) (p3 : Int32) (p4 : Int32) (h0 : Heap) (n0 : Nat) (v : Option Value) (h : Heap) (L : List Loc) : Prop := ∃ b5_0 : Addr, ∃ b5_1 : Addr, ∃ kx5_0 : ClassId, v = some (.ref b5_0) ∧ Fr n0 L ∧ Keep h0 h [] ∧ h0.size ≤ b5_0 ∧ h0.size ≤ b5_1 ∧ b5_0 ≠ b5_1 ∧ Exa Z h b5_0 "java/lang/String" ∧ Fld Z h b5_0 "java/lang/String" "coder" "B" (.int (1 : Int32)) ∧ Fld Z h b5_0 "java/lang/String" "value" "[B" (.ref b5_1) ∧ Arv Z h b5_1 kx5_0 .byte (2 : Int32) [(.int (((p1 >>> ((0 : Int32) &&& 31)).toInt8.toInt32).toInt8.toInt32)), (.int (((p1 >>> ((8 : Int32) &&& 31)).toInt8.toInt32).toInt8.toInt32))] (.int (0 : Int32))
set_option maxRecDepth 65536 in
set_option maxHeartbeats 40000000 in
theorem rm1_1 (l : Launch) (Z : State) (a0 : Array Value) (hw : ∀ d ∈ tables_1, d.before a0 Z = true) (ws : List Jvm.Cond) (p1 : Int32) (p2 : Int32) (p3 : Int32) (p4 : Int32) (h0 : Heap) (n0 : Nat) (OL0 : Old Z n0 h0) (pr1 : Sta Z Z.heap "java/lang/String" "COMPACT_STRINGS" "Z" (.int p4)) (pr2 : ¬ (p4 = (0 : Int32))) (pr3 : (255 : Int32) < p1) (pr4 : Sta Z Z.heap "java/lang/StringUTF16" "$assertionsDisabled" "Z" (.int (1 : Int32))) (pr5 : Sta Z Z.heap "java/lang/StringUTF16" "HI_BYTE_SHIFT" "I" (.int (0 : Int32))) (pr6 : Sta Z Z.heap "java/lang/StringUTF16" "LO_BYTE_SHIFT" "I" (.int (8 : Int32))) :
    MetFree l mn1 (head1 (Jvm.Cond.code mn1 method_2_code 4 (some (.object "java/lang/String")) :: ws) ({ frames := 3, cells := 2, slots := 6, locals := 41 } : Room)) (fun a U => a = #[(.int (1 : Int32)), (.int p1), (.int p2), (.int p3)] ∧ Z.Warmed39 U.vm ∧ U.heap = h0) (fun _ _ _ _ _ => True) (fun _ U o U' => ∃ v L, o = .returned v ∧ Q_rm1_1 Z p1 p2 p3 p4 h0 n0 v U'.heap L ∧ FrameEnd U o U' L ({ frames := 3, cells := 2, slots := 6, locals := 41 } : Room).cells ({ frames := 3, cells := 2, slots := 6, locals := 41 } : Room).slots) := by
  refine MetFree.of_bodySF (plainFor_of_name pn_1) hisR ?_
  intro p e s m args below meth c s₁ Bd hml0 hP hK
  obtain ⟨rfl, hZ, hh⟩ := hP
  have hx := Bd.exec
  have hby := Bd.bytes
  have hml : c.maxLocals = 4 := hml0
  have hown : s.vm.findClass "com/example/aeroslice/aeroslice/SrsDefaultsOfPinLaw" = some m.cls := findClass_of_methodNamed Bd.named
  have hnm := (name_of_methodNamed Bd.named Bd.method).1
  have X0 : Stand p l e ({ frames := 3, cells := 2, slots := 6, locals := 41 } : Room) s m #[(.int (1 : Int32)), (.int p1), (.int p2), (.int p3)] below meth c s₁ [] 0 0 := Stand.of_body Bd
  have e0 : s₁.heap = h0 := by rw [← hh, Bd.state]; rfl
  have N0 := Fr.nil n0
  have pre0 : ∀ t, SS p e below s₁ m 0 #[iv (1 : Int32), iv p1, iv p2, iv p3] [] t → Steps p.tables e below (s₁.setTop (entryFrame m #[(.int (1 : Int32)), (.int p1), (.int p2), (.int p3)] 4)) t := fun t k => castTop (ef_1_14 m p1 p2 p3) k
  obtain ⟨_, _, ⟨T5, L5, k5, n5⟩, -, X5, ⟨Lc5, hQ5, l5, y5, z5⟩, st5⟩ := Jvm.LawKit.callS X0 hx (y := mn19) hown (mvT hZ (wd98 hw)) (mvT hZ (wd99 hw)) (mvT hZ (wd7 hw)) (mvT hZ (wd100 hw)) (by decide) (backOf (W := 0) (rm19_0 l Z a0 hw [] p1 p4 h0 n0 OL0 pr1 pr2 pr3 pr4 pr5 pr6) hZ (wd100 hw) (wd7 hw) (by decide) (by decide)) (g := (mkF m 21 #[iv (1 : Int32), iv p1, iv p2, iv p3] [(.int p1)])) rfl (by rw [hml]; rfl) (argsL := [(.int p1)]) (rest := []) (lenOf pd_13 rfl) rfl (by show 2 * 0 + _ ≤ _; exact Nat.le_of_eq rfl) (hb hby d1_21) (fun _ _ => ⟨rfl, e0, (by decide : 0 + 2 ≤ _), (by decide : 0 + 6 ≤ _)⟩)
  dsimp only [Pt.U, Pt.locs, Pt.cells, Pt.slots] at X5 l5 y5 z5 st5 hQ5
  subst l5 y5 z5
  obtain ⟨b5_0, b5_1, kx5_0, rfl, Nq5, K5, u5_0, u5_1, u5_2, u5_3, u5_4, u5_5, u5_6⟩ := hQ5
  have KK5 : Keep h0 T5.heap [] := (Keep.refl h0 []).trans K5 all0
  have OL5 := OL0.keep K5 all0
  have g_b5_0 : n0 ≤ b5_0 := Nat.le_trans (Nat.le_trans (Nat.le_of_eq OL0.1.symm) OL0.2.1) u5_0
  have sz_b5_0 : h0.size ≤ b5_0 := Nat.le_trans (Keep.refl h0 []).1 u5_0
  have g_b5_1 : n0 ≤ b5_1 := Nat.le_trans (Nat.le_trans (Nat.le_of_eq OL0.1.symm) OL0.2.1) u5_1
  have sz_b5_1 : h0.size ≤ b5_1 := Nat.le_trans (Keep.refl h0 []).1 u5_1
  have N5 := Fr.app N0 Nq5
  obtain ⟨fs, hr, hrun, hended, hW, hsame⟩ := X5.leave (v := some (.ref b5_0)) (fun h => by rw [Bd.returns] at h; cases h)
  refine ⟨_, _, pre0 _ ?_, hrun, hended, _, _, rfl, ?_, ⟨_, rfl⟩, hW, hsame.mono (by decide) (by decide)⟩
  · show SS p e below s₁ m 0 #[iv (1 : Int32), iv p1, iv p2, iv p3] [] _
    refine XS.iloadN X0.here hx rfl (hb hby d1_0) rfl ?_
    show SS p e below s₁ m 1 #[iv (1 : Int32), iv p1, iv p2, iv p3] [(.int (1 : Int32))] _
    refine XS.ifYes X0.here hx rfl (pc0 := 1) (pc' := 15) rfl (hb hby d1_1) rfl ((if0 _ _).trans (feq (by decide : ¬ ((1 : Int32) = (0 : Int32)))).2) (by decide) (by decide) ?_
    show SS p e below s₁ m 15 #[iv (1 : Int32), iv p1, iv p2, iv p3] [] _
    refine XS.iloadN X0.here hx rfl (hb hby d1_15) rfl ?_
    refine XS.iconst X0.here hx rfl (hb hby d1_16) ?_
    show SS p e below s₁ m 17 #[iv (1 : Int32), iv p1, iv p2, iv p3] [(.int (1 : Int32)), (.int (1 : Int32))] _
    refine XS.icmpNo X0.here hx rfl (hb hby d1_17) rfl (teq (rfl : (1 : Int32) = (1 : Int32))).2 ?_
    show SS p e below s₁ m 20 #[iv (1 : Int32), iv p1, iv p2, iv p3] [] _
    refine XS.iloadN X0.here hx rfl (hb hby d1_20) rfl ?_
    show SS p e below s₁ m 21 #[iv (1 : Int32), iv p1, iv p2, iv p3] [(.int p1)] _
    refine st5 _ ?_
    show SS p e below T5 m 24 #[iv (1 : Int32), iv p1, iv p2, iv p3] [(.ref b5_0)] _
    jvm_step X5.here [X5.here.top, hx, (hb hby d1_24), X5.method', Bd.returns, Value.isRef, FieldType.isReference]
    first | (intro acts; rw [hr _ acts rfl rfl rfl]) | rw [hr _ _ rfl rfl rfl]
    exact Steps.refl _
  · show Q_rm1_1 Z p1 p2 p3 p4 h0 n0 _ T5.heap _
    exact ⟨b5_0, b5_1, kx5_0, rfl, N5, KK5, sz_b5_0, sz_b5_1, u5_2, u5_3, u5_4, u5_5, u5_6⟩
theorem d20_7 : decode jdk_43_method_3_code 7 = .ok (.iconst 1, 1) := by decide +kernel
theorem d20_8 : decode jdk_43_method_3_code 8 = .ok (.goto 4, 3) := by decide +kernel
def Q_rm20_1 (Z : State) (p1 : Int32) (h0 : Heap) (n0 : Nat) (v : Option Value) (h : Heap) (L : List Loc) : Prop := v = some (.int (1 : Int32)) ∧ Fr n0 L ∧ h = h0
set_option maxRecDepth 65536 in
set_option maxHeartbeats 40000000 in
theorem rm20_1 (l : Launch) (Z : State) (a0 : Array Value) (hw : ∀ d ∈ tables_1, d.before a0 Z = true) (ws : List Jvm.Cond) (p1 : Int32) (h0 : Heap) (n0 : Nat) (OL0 : Old Z n0 h0) (pr1 : ¬ ((255 : Int32) < p1)) :
    MetFree l mn20 (head1 (Jvm.Cond.code mn20 jdk_43_method_3_code 1 (some .boolean) :: ws) ({ frames := 0, cells := 0, slots := 0, locals := 0 } : Room)) (fun a U => a = #[(.int p1)] ∧ Z.Warmed39 U.vm ∧ U.heap = h0) (fun _ _ _ _ _ => True) (fun _ U o U' => ∃ v L, o = .returned v ∧ Q_rm20_1 Z p1 h0 n0 v U'.heap L ∧ FrameEnd U o U' L ({ frames := 0, cells := 0, slots := 0, locals := 0 } : Room).cells ({ frames := 0, cells := 0, slots := 0, locals := 0 } : Room).slots) := by
  refine MetFree.of_bodySF (plainFor_of_name pn_5) hisR ?_
  intro p e s m args below meth c s₁ Bd hml0 hP hK
  obtain ⟨rfl, hZ, hh⟩ := hP
  have hx := Bd.exec
  have hby := Bd.bytes
  have hml : c.maxLocals = 1 := hml0
  have hown : s.vm.findClass "java/lang/StringLatin1" = some m.cls := findClass_of_methodNamed Bd.named
  have hnm := (name_of_methodNamed Bd.named Bd.method).1
  have X0 : Stand p l e ({ frames := 0, cells := 0, slots := 0, locals := 0 } : Room) s m #[(.int p1)] below meth c s₁ [] 0 0 := Stand.of_body Bd
  have e0 : s₁.heap = h0 := by rw [← hh, Bd.state]; rfl
  have N0 := Fr.nil n0
  have pre0 : ∀ t, SS p e below s₁ m 0 #[iv p1] [] t → Steps p.tables e below (s₁.setTop (entryFrame m #[(.int p1)] 1)) t := fun t k => castTop (ef_20_9 m p1) k
  obtain ⟨fs, hr, hrun, hended, hW, hsame⟩ := X0.leave (v := some (.int (1 : Int32))) (fun h => by rw [Bd.returns] at h; cases h)
  refine ⟨_, _, pre0 _ ?_, hrun, hended, _, _, rfl, ?_, ⟨_, rfl⟩, hW, hsame.mono (by decide) (by decide)⟩
  · show SS p e below s₁ m 0 #[iv p1] [] _
    refine XS.iloadN X0.here hx rfl (hb hby d20_0) rfl ?_
    refine XS.sipush X0.here hx rfl (hb hby d20_1) ?_
    show SS p e below s₁ m 4 #[iv p1] [(.int (255 : Int32)), (.int p1)] _
    refine XS.icmpNo X0.here hx rfl (hb hby d20_4) rfl (flt pr1).2.2.1 ?_
    show SS p e below s₁ m 7 #[iv p1] [] _
    refine XS.iconst X0.here hx rfl (hb hby d20_7) ?_
    refine XS.goto X0.here hx rfl (pc0 := 8) (pc' := 12) rfl (hb hby d20_8) (by decide) (by decide) ?_
    show SS p e below s₁ m 12 #[iv p1] [(.int (1 : Int32))] _
    exact retN X0 hx (t := .boolean) Bd.returns (by simp) (hb hby d20_12) hr
  · show Q_rm20_1 Z p1 h0 n0 _ s₁.heap _
    rw [e0]
    exact ⟨rfl, N0, rfl⟩
theorem d19_13 : decode jdk_42_method_139_code 13 = .ok (.new 10, 3) := by decide +kernel
theorem d19_16 : decode jdk_42_method_139_code 16 = .ok (.dup, 1) := by decide +kernel
theorem d19_17 : decode jdk_42_method_139_code 17 = .ok (.iload_n 0, 1) := by decide +kernel
theorem d19_18 : decode jdk_42_method_139_code 18 = .ok (.invokestatic 1018, 3) := by decide +kernel
theorem d23_0 : decode jdk_43_method_46_code 0 = .ok (.iconst 1, 1) := by decide +kernel
theorem d23_1 : decode jdk_43_method_46_code 1 = .ok (.newarray .byte, 2) := by decide +kernel
theorem d23_3 : decode jdk_43_method_46_code 3 = .ok (.dup, 1) := by decide +kernel
theorem d23_4 : decode jdk_43_method_46_code 4 = .ok (.iconst 0, 1) := by decide +kernel
theorem d23_5 : decode jdk_43_method_46_code 5 = .ok (.iload_n 0, 1) := by decide +kernel
theorem d23_6 : decode jdk_43_method_46_code 6 = .ok (.i2b, 1) := by decide +kernel
theorem d23_7 : decode jdk_43_method_46_code 7 = .ok (.bastore, 1) := by decide +kernel
theorem d23_8 : decode jdk_43_method_46_code 8 = .ok (.areturn, 1) := by decide +kernel
theorem ef_23_15 (m : MethodId) (x0 : Int32) : entryFrame m #[(.int x0)] 1 = mkF m 0 #[.val (.int x0)] [] := by first | (simp [entryFrame, mkF, argsToLocals, Value.category]; done) | rfl
def Q_rm23_0 (Z : State) (p1 : Int32) (h0 : Heap) (n0 : Nat) (v : Option Value) (h : Heap) (L : List Loc) : Prop := ∃ b2 : Addr, ∃ k2 : ClassId, v = some (.ref b2) ∧ Fr n0 L ∧ Keep h0 h [] ∧ h0.size ≤ b2 ∧ Arv Z h b2 k2 .byte (1 : Int32) [(.int ((p1.toInt8.toInt32).toInt8.toInt32))] (.int (0 : Int32))
set_option maxRecDepth 65536 in
set_option maxHeartbeats 40000000 in
theorem rm23_0 (l : Launch) (Z : State) (a0 : Array Value) (hw : ∀ d ∈ tables_1, d.before a0 Z = true) (ws : List Jvm.Cond) (p1 : Int32) (h0 : Heap) (n0 : Nat) (OL0 : Old Z n0 h0)  :
    MetFree l mn23 (head1 (Jvm.Cond.code mn23 jdk_43_method_46_code 1 (some (.array .byte)) :: ws) ({ frames := 0, cells := 1, slots := 1, locals := 0 } : Room)) (fun a U => a = #[(.int p1)] ∧ Z.Warmed39 U.vm ∧ U.heap = h0) (fun _ _ _ _ _ => True) (fun _ U o U' => ∃ v L, o = .returned v ∧ Q_rm23_0 Z p1 h0 n0 v U'.heap L ∧ FrameEnd U o U' L ({ frames := 0, cells := 1, slots := 1, locals := 0 } : Room).cells ({ frames := 0, cells := 1, slots := 1, locals := 0 } : Room).slots) := by
  refine MetFree.of_bodySF (plainFor_of_name pn_5) hisR ?_
  intro p e s m args below meth c s₁ Bd hml0 hP hK
  obtain ⟨rfl, hZ, hh⟩ := hP
  have hx := Bd.exec
  have hby := Bd.bytes
  have hml : c.maxLocals = 1 := hml0
  have hown : s.vm.findClass "java/lang/StringLatin1" = some m.cls := findClass_of_methodNamed Bd.named
  have hnm := (name_of_methodNamed Bd.named Bd.method).1
  have X0 : Stand p l e ({ frames := 0, cells := 1, slots := 1, locals := 0 } : Room) s m #[(.int p1)] below meth c s₁ [] 0 0 := Stand.of_body Bd
  have e0 : s₁.heap = h0 := by rw [← hh, Bd.state]; rfl
  have N0 := Fr.nil n0
  have pre0 : ∀ t, SS p e below s₁ m 0 #[iv p1] [] t → Steps p.tables e below (s₁.setTop (entryFrame m #[(.int p1)] 1)) t := fun t k => castTop (ef_23_15 m p1) k
  obtain ⟨T2, h2, k2, X2, e2, E2, A2, st2⟩ := newP (aty := .byte) X0 hx hZ (wd24 hw) e0 (g := (mkF m 1 #[iv p1] [(.int (1 : Int32))])) rfl (hb hby d23_1) rfl (by decide) (cap := 1) (by decide) (by decide) (by decide) (by decide)
  obtain ⟨b2, g2⟩ : ∃ z, z = h0.size := ⟨_, rfl⟩
  rw [← g2] at A2 st2
  have V2 : Arv Z h2 b2 k2 .byte (1 : Int32) [(.int (0 : Int32))] (.int (0 : Int32)) := (Arv.new A2 (by decide)).pad (pad_rep [] (.int (0 : Int32)) 1)
  have g_b2 : n0 ≤ b2 := (Nat.le_trans (Nat.le_trans (Nat.le_of_eq OL0.1.symm) OL0.2.1) (Nat.le_of_eq g2.symm))
  have sz_b2 : h0.size ≤ b2 := (Nat.le_trans (Keep.refl h0 []).1 (Nat.le_of_eq g2.symm))
  have KK2 : Keep h0 h2 [] := (Keep.refl h0 []).ext E2
  have OL2 := OL0.ext E2
  obtain ⟨cl3, Ar3, q3, S3, M3, Hs3, G3⟩ := id V2
  have hin3 : ¬ ((0 : Int32) < 0 ∨ cl3.slots.size ≤ ((0 : Int32)).toNatClampNeg) := inb_of S3 ⟨by decide, by decide⟩
  obtain ⟨T4, h4, X4, e4, W4, st4⟩ := stB X2 hx hZ e2 Ar3 (j := (0 : Int32)) hin3 (g := (mkF m 7 #[iv p1] [(.int (p1.toInt8.toInt32)), (.int (0 : Int32)), (.ref b2), (.ref b2)])) rfl rfl (hb hby d23_7)
  have V4 : Arv Z h4 b2 k2 .byte (1 : Int32) [(.int ((p1.toInt8.toInt32).toInt8.toInt32))] (.int (0 : Int32)) := Arv.set Ar3 q3 S3 M3 Hs3 G3 (fits_nar_byte _) W4 0 rfl (Nat.le_of_ble_eq_true rfl)
  have KK4 : Keep h0 h4 [] := KK2.wr W4 (Or.inr sz_b2)
  have OL4 := OL2.wr W4 g_b2
  have N4 := Fr.snoc X4 N0 g_b2
  obtain ⟨fs, hr, hrun, hended, hW, hsame⟩ := X4.leave (v := some (.ref b2)) (fun h => by rw [Bd.returns] at h; cases h)
  refine ⟨_, _, pre0 _ ?_, hrun, hended, _, _, rfl, ?_, ⟨_, rfl⟩, hW, hsame.mono (by decide) (by decide)⟩
  · show SS p e below s₁ m 0 #[iv p1] [] _
    refine XS.iconst X0.here hx rfl (hb hby d23_0) ?_
    show SS p e below s₁ m 1 #[iv p1] [(.int (1 : Int32))] _
    refine st2 _ ?_
    show SS p e below T2 m 3 #[iv p1] [(.ref b2)] _
    refine XS.dup X2.here hx rfl (hb hby d23_3) rfl rfl ?_
    refine XS.iconst X2.here hx rfl (hb hby d23_4) ?_
    refine XS.iloadN X2.here hx rfl (hb hby d23_5) rfl ?_
    show SS p e below T2 m 6 #[iv p1] [(.int p1), (.int (0 : Int32)), (.ref b2), (.ref b2)] _
    refine XS.i2b X2.here hx rfl (hb hby d23_6) rfl ?_
    show SS p e below T2 m 7 #[iv p1] [(.int (p1.toInt8.toInt32)), (.int (0 : Int32)), (.ref b2), (.ref b2)] _
    refine st4 _ ?_
    show SS p e below T4 m 8 #[iv p1] [(.ref b2)] _
    jvm_step X4.here [X4.here.top, hx, (hb hby d23_8), X4.method', Bd.returns, Value.isRef, FieldType.isReference]
    first | (intro acts; rw [hr _ acts rfl rfl rfl]) | rw [hr _ _ rfl rfl rfl]
    exact Steps.refl _
  · show Q_rm23_0 Z p1 h0 n0 _ T4.heap _
    rw [e4]
    exact ⟨b2, k2, rfl, N4, KK4, sz_b2, V4⟩
theorem d19_21 : decode jdk_42_method_139_code 21 = .ok (.iconst 0, 1) := by decide +kernel
theorem d19_22 : decode jdk_42_method_139_code 22 = .ok (.invokespecial 209, 3) := by decide +kernel
theorem ef_22_16 (m : MethodId) (x0 : Addr) (x1 : Addr) : entryFrame m #[(.ref x0), (.ref x1), (.int (0 : Int32))] 3 = mkF m 0 #[.val (.ref x0), .val (.ref x1), .val (.int (0 : Int32))] [] := by first | (simp [entryFrame, mkF, argsToLocals, Value.category]; done) | rfl
def Q_rm22_1 (Z : State) (a1 : Addr) (a2 : Addr) (h0 : Heap) (n0 : Nat) (v : Option Value) (h : Heap) (L : List Loc) : Prop := v = none ∧ Fr n0 L ∧ Keep h0 h [a1] ∧ Fld Z h a1 "java/lang/String" "value" "[B" (.ref a2) ∧ Fld Z h a1 "java/lang/String" "coder" "B" (.int (0 : Int32))
set_option maxRecDepth 65536 in
set_option maxHeartbeats 40000000 in
theorem rm22_1 (l : Launch) (Z : State) (a0 : Array Value) (hw : ∀ d ∈ tables_1, d.before a0 Z = true) (ws : List Jvm.Cond) (a1 : Addr) (a2 : Addr) (h0 : Heap) (n0 : Nat) (OL0 : Old Z n0 h0) (pr1 : Exa Z h0 a1 "java/lang/String") (pr2 : Fld Z h0 a1 "java/lang/String" "value" "[B" .null) (pr3 : n0 ≤ a1) (pr4 : Fld Z h0 a1 "java/lang/String" "coder" "B" (.int (0 : Int32))) :
    MetFree l mn22 (head1 (Jvm.Cond.code mn22 jdk_42_method_151_code 3 none :: ws) ({ frames := 1, cells := 0, slots := 0, locals := 12 } : Room)) (fun a U => a = #[(.ref a1), (.ref a2), (.int (0 : Int32))] ∧ Z.Warmed39 U.vm ∧ U.heap = h0) (fun _ _ _ _ _ => True) (fun _ U o U' => ∃ v L, o = .returned v ∧ Q_rm22_1 Z a1 a2 h0 n0 v U'.heap L ∧ FrameEnd U o U' L ({ frames := 1, cells := 0, slots := 0, locals := 12 } : Room).cells ({ frames := 1, cells := 0, slots := 0, locals := 12 } : Room).slots) := by
  refine MetFree.of_bodySF (plainFor_of_name pn_0) hisR ?_
  intro p e s m args below meth c s₁ Bd hml0 hP hK
  obtain ⟨rfl, hZ, hh⟩ := hP
  have hx := Bd.exec
  have hby := Bd.bytes
  have hml : c.maxLocals = 3 := hml0
  have hown : s.vm.findClass "java/lang/String" = some m.cls := findClass_of_methodNamed Bd.named
  have hnm := (name_of_methodNamed Bd.named Bd.method).1
  have X0 : Stand p l e ({ frames := 1, cells := 0, slots := 0, locals := 12 } : Room) s m #[(.ref a1), (.ref a2), (.int (0 : Int32))] below meth c s₁ [] 0 0 := Stand.of_body Bd
  have e0 : s₁.heap = h0 := by rw [← hh, Bd.state]; rfl
  have N0 := Fr.nil n0
  have pre0 : ∀ t, SS p e below s₁ m 0 #[rv a1, rv a2, iv (0 : Int32)] [] t → Steps p.tables e below (s₁.setTop (entryFrame m #[(.ref a1), (.ref a2), (.int (0 : Int32))] 3)) t := fun t k => castTop (ef_22_16 m a1 a2) k
  obtain ⟨T3, X3, e3, st3⟩ := initO X0 hx hZ hown (wd16 hw) (wd17 hw) (wd18 hw) e0 (g := (mkF m 1 #[rv a1, rv a2, iv (0 : Int32)] [(.ref a1)])) rfl (by rw [hml]; rfl) rfl (hb hby d22_1) (by decide) (W := 0) (by show 2 * 0 + _ ≤ _; exact Nat.le_of_eq rfl) (by decide)
  obtain ⟨T4, h4, X4, e4, W4, st4⟩ := putF X3 hx hZ hown (host := "") (Or.inl (wd33 hw)) Via.refl e3 pr2 pr1 (Or.inr ⟨(wd34 hw), rfl, hnm⟩) (wd6 hw) (ty := (.array .byte)) (by decide) rfl rfl (g := (mkF m 6 #[rv a1, rv a2, iv (0 : Int32)] [(.ref a2), (.ref a1)])) rfl rfl (hb hby d22_6)
  have Fw4 := pr2.same W4
  have KK4 : Keep h0 h4 [a1] := (Keep.refl h0 [a1]).wr W4 (Or.inl (List.mem_of_getElem? (i := 0) rfl))
  have OL4 := OL0.wr W4 pr3
  have N4 := Fr.snoc X4 N0 pr3
  have fc5 := (pr1.wr W4)
  have fc6 := (pr4.other W4 (Or.inr (slot_ne (Or.inr (wd32 hw)) (Or.inr (wd34 hw)) (by decide) (t := .byte) (t' := (.array .byte)) (by decide) (by decide))))
  obtain ⟨T7, h7, X7, e7, W7, st7⟩ := putFN X4 hx hZ hown (wd31 hw) Via.refl e4 fc6 fc5 (Or.inr ⟨(wd32 hw), rfl, hnm⟩) (wd6 hw) (ty := .byte) (v' := (.int (0 : Int32))) (by decide) rfl rfl (g := (mkF m 11 #[rv a1, rv a2, iv (0 : Int32)] [(.int (0 : Int32)), (.ref a1)])) rfl rfl (hb hby d22_11)
  have Fw7 := fc6.same W7
  have KK7 : Keep h0 h7 [a1] := KK4.wr W7 (Or.inl (List.mem_of_getElem? (i := 0) rfl))
  have OL7 := OL4.wr W7 pr3
  have N7 := Fr.snoc X7 N4 pr3
  have fc8 := (Fw4.other W7 (Or.inr (slot_ne (Or.inr (wd34 hw)) (Or.inr (wd32 hw)) (by decide) (t := (.array .byte)) (t' := .byte) (by decide) (by decide))))
  obtain ⟨fs, hr, hrun, hended, hW, hsame⟩ := X7.leave (v := none) (fun _ => rfl)
  refine ⟨_, _, pre0 _ ?_, hrun, hended, _, _, rfl, ?_, ⟨_, rfl⟩, hW, hsame.mono (by decide) (by decide)⟩
  · show SS p e below s₁ m 0 #[rv a1, rv a2, iv (0 : Int32)] [] _
    refine XS.aloadN X0.here hx rfl (hb hby d22_0) rfl rfl ?_
    show SS p e below s₁ m 1 #[rv a1, rv a2, iv (0 : Int32)] [(.ref a1)] _
    refine st3 _ ?_
    show SS p e below T3 m 4 #[rv a1, rv a2, iv (0 : Int32)] [] _
    refine XS.aloadN X3.here hx rfl (hb hby d22_4) rfl rfl ?_
    refine XS.aloadN X3.here hx rfl (hb hby d22_5) rfl rfl ?_
    show SS p e below T3 m 6 #[rv a1, rv a2, iv (0 : Int32)] [(.ref a2), (.ref a1)] _
    refine st4 _ ?_
    show SS p e below T4 m 9 #[rv a1, rv a2, iv (0 : Int32)] [] _
    refine XS.aloadN X4.here hx rfl (hb hby d22_9) rfl rfl ?_
    refine XS.iloadN X4.here hx rfl (hb hby d22_10) rfl ?_
    show SS p e below T4 m 11 #[rv a1, rv a2, iv (0 : Int32)] [(.int (0 : Int32)), (.ref a1)] _
    refine st7 _ ?_
    show SS p e below T7 m 14 #[rv a1, rv a2, iv (0 : Int32)] [] _
    exact X7.returnOut hx Bd.returns (hb hby d22_14) hr
  · show Q_rm22_1 Z a1 a2 h0 n0 _ T7.heap _
    rw [e7]
    exact ⟨rfl, N7, KK7, fc8, Fw7⟩
theorem d19_25 : decode jdk_42_method_139_code 25 = .ok (.areturn, 1) := by decide +kernel
def Q_rm19_1 (Z : State) (p1 : Int32) (p2 : Int32) (h0 : Heap) (n0 : Nat) (v : Option Value) (h : Heap) (L : List Loc) : Prop := ∃ b5 : Addr, ∃ b6_0 : Addr, ∃ kx6_0 : ClassId, v = some (.ref b5) ∧ Fr n0 L ∧ Keep h0 h [] ∧ h0.size ≤ b5 ∧ h0.size ≤ b6_0 ∧ b5 ≠ b6_0 ∧ Exa Z h b5 "java/lang/String" ∧ Fld Z h b5 "java/lang/String" "coder" "B" (.int (0 : Int32)) ∧ Fld Z h b5 "java/lang/String" "value" "[B" (.ref b6_0) ∧ Arv Z h b6_0 kx6_0 .byte (1 : Int32) [(.int ((p1.toInt8.toInt32).toInt8.toInt32))] (.int (0 : Int32))
set_option maxRecDepth 65536 in
set_option maxHeartbeats 40000000 in
theorem rm19_1 (l : Launch) (Z : State) (a0 : Array Value) (hw : ∀ d ∈ tables_1, d.before a0 Z = true) (ws : List Jvm.Cond) (p1 : Int32) (p2 : Int32) (h0 : Heap) (n0 : Nat) (OL0 : Old Z n0 h0) (pr1 : Sta Z Z.heap "java/lang/String" "COMPACT_STRINGS" "Z" (.int p2)) (pr2 : ¬ (p2 = (0 : Int32))) (pr3 : ¬ ((255 : Int32) < p1)) :
    MetFree l mn19 (head1 (Jvm.Cond.code mn19 jdk_42_method_139_code 1 (some (.object "java/lang/String")) :: ws) ({ frames := 2, cells := 2, slots := 5, locals := 27 } : Room)) (fun a U => a = #[(.int p1)] ∧ Z.Warmed39 U.vm ∧ U.heap = h0) (fun _ _ _ _ _ => True) (fun _ U o U' => ∃ v L, o = .returned v ∧ Q_rm19_1 Z p1 p2 h0 n0 v U'.heap L ∧ FrameEnd U o U' L ({ frames := 2, cells := 2, slots := 5, locals := 27 } : Room).cells ({ frames := 2, cells := 2, slots := 5, locals := 27 } : Room).slots) := by
  refine MetFree.of_bodySF (plainFor_of_name pn_0) hisR ?_
  intro p e s m args below meth c s₁ Bd hml0 hP hK
  obtain ⟨rfl, hZ, hh⟩ := hP
  have hx := Bd.exec
  have hby := Bd.bytes
  have hml : c.maxLocals = 1 := hml0
  have hown : s.vm.findClass "java/lang/String" = some m.cls := findClass_of_methodNamed Bd.named
  have hnm := (name_of_methodNamed Bd.named Bd.method).1
  have X0 : Stand p l e ({ frames := 2, cells := 2, slots := 5, locals := 27 } : Room) s m #[(.int p1)] below meth c s₁ [] 0 0 := Stand.of_body Bd
  have e0 : s₁.heap = h0 := by rw [← hh, Bd.state]; rfl
  have N0 := Fr.nil n0
  have pre0 : ∀ t, SS p e below s₁ m 0 #[iv p1] [] t → Steps p.tables e below (s₁.setTop (entryFrame m #[(.int p1)] 1)) t := fun t k => castTop (ef_19_13 m p1) k
  obtain ⟨T3, X3, e3, st3⟩ := getS2 X0 hx hZ hown (host := "") (Or.inl (wd19 hw)) Via.refl e0 (pr1.ext OL0.2) (g := (mkF m 0 #[iv p1] [])) rfl (hb hby d19_0)
  obtain ⟨_, _, ⟨T4, L4, k4, n4⟩, -, X4, ⟨Lc4, hQ4, l4, y4, z4⟩, st4⟩ := Jvm.LawKit.callS X3 hx (y := mn20) hown (mvT hZ (wd101 hw)) (mvT hZ (wd102 hw)) (mvT hZ (wd103 hw)) (mvT hZ (wd104 hw)) (by decide) (backOf (W := 0) (rm20_1 l Z a0 hw [] p1 h0 n0 OL0 pr3) hZ (wd104 hw) (wd103 hw) (by decide) (by decide)) (g := (mkF m 7 #[iv p1] [(.int p1)])) rfl (by rw [hml]; rfl) (argsL := [(.int p1)]) (rest := []) (lenOf pd_9 rfl) rfl (by show 2 * 0 + _ ≤ _; exact Nat.le_of_eq rfl) (hb hby d19_7) (fun _ _ => ⟨rfl, e3, (by decide : 0 + 0 ≤ _), (by decide : 0 + 0 ≤ _)⟩)
  dsimp only [Pt.U, Pt.locs, Pt.cells, Pt.slots] at X4 l4 y4 z4 st4 hQ4
  subst l4 y4 z4
  obtain ⟨rfl, Nq4, ec4⟩ := hQ4
  have N4 := Fr.app N0 Nq4
  obtain ⟨T5, h5, X5, e5, E5, A5, D5, -, st5⟩ := newO X4 hx hZ hown (wd105 hw) (wd6 hw) (wd7 hw) ec4 (g := (mkF m 13 #[iv p1] [])) rfl (hb hby d19_13) (by decide) (by decide)
  obtain ⟨b5, g5⟩ : ∃ z, z = h0.size := ⟨_, rfl⟩
  rw [← g5] at A5 D5 st5
  have g_b5 : n0 ≤ b5 := (Nat.le_trans (Nat.le_trans (Nat.le_of_eq OL0.1.symm) OL0.2.1) (Nat.le_of_eq g5.symm))
  have sz_b5 : h0.size ≤ b5 := (Nat.le_trans (Keep.refl h0 []).1 (Nat.le_of_eq g5.symm))
  have KK5 : Keep h0 h5 [] := (Keep.refl h0 []).ext E5
  have OL5 := OL0.ext E5
  have F_coder_b5 : Fld Z h5 b5 "java/lang/String" "coder" "B" (.int (0 : Int32)) := D5 (Or.inr (wd32 hw)) (ty := .byte) (by decide)
  have F_value_b5 : Fld Z h5 b5 "java/lang/String" "value" "[B" .null := D5 (Or.inr (wd34 hw)) (ty := (.array .byte)) (by decide)
  obtain ⟨_, _, ⟨T6, L6, k6, n6⟩, -, X6, ⟨Lc6, hQ6, l6, y6, z6⟩, st6⟩ := Jvm.LawKit.callS X5 hx (y := mn23) hown (mvT hZ (wd115 hw)) (mvT hZ (wd116 hw)) (mvT hZ (wd103 hw)) (mvT hZ (wd117 hw)) (by decide) (backOf (W := 2) (rm23_0 l Z a0 hw [] p1 h5 n0 OL5 ) hZ (wd117 hw) (wd103 hw) (by decide) (by decide)) (g := (mkF m 18 #[iv p1] [(.int p1), (.ref b5), (.ref b5)])) rfl (by rw [hml]; rfl) (argsL := [(.int p1)]) (rest := [(.ref b5), (.ref b5)]) (lenOf pd_11 rfl) rfl (by show 2 * 0 + _ ≤ _; exact Nat.le_of_eq rfl) (hb hby d19_18) (fun _ _ => ⟨rfl, e5, (by decide : 1 + 1 ≤ _), (by decide : 4 + 1 ≤ _)⟩)
  dsimp only [Pt.U, Pt.locs, Pt.cells, Pt.slots] at X6 l6 y6 z6 st6 hQ6
  subst l6 y6 z6
  obtain ⟨b6_0, kx6_0, rfl, Nq6, K6, u6_0, u6_1⟩ := hQ6
  have KK6 : Keep h0 T6.heap [] := KK5.trans K6 all0
  have OL6 := OL5.keep K6 all0
  have g_b6_0 : n0 ≤ b6_0 := Nat.le_trans (Nat.le_trans (Nat.le_of_eq OL5.1.symm) OL5.2.1) u6_0
  have sz_b6_0 : h0.size ≤ b6_0 := Nat.le_trans KK5.1 u6_0
  have N6 := Fr.app N4 Nq6
  have fc8 := (A5.keep K6)
  have fc9 := (F_value_b5.keep K6 nin0)
  have fc10 := (F_coder_b5.keep K6 nin0)
  obtain ⟨_, _, ⟨T7, L7, k7, n7⟩, -, X7, ⟨Lc7, hQ7, l7, y7, z7⟩, st7⟩ := X6.specialBack hx (y := mn22) rfl hown (mvT hZ (wd109 hw)) (mvT hZ (wd110 hw)) (mvT hZ (wd111 hw)) (by decide) (backOf (W := 1) (rm22_1 l Z a0 hw [] b5 b6_0 T6.heap n0 OL6 fc8 fc9 g_b5 fc10) hZ (wd111 hw) (wd7 hw) (by decide) (by decide)) (g := (mkF m 22 #[iv p1] [(.int (0 : Int32)), (.ref b6_0), (.ref b5), (.ref b5)])) rfl (by rw [hml]; rfl) (Steps.refl _) (a := b5) (argsL := [(.ref b6_0), (.int (0 : Int32))]) (rest := [(.ref b5)]) (lenOf pd_12 rfl) rfl (by show 2 * 0 + _ ≤ _; exact Nat.le_of_eq rfl) (hb hby d19_22) (fun _ _ => ⟨rfl, rfl, (by decide : 2 + 0 ≤ _), (by decide : 5 + 0 ≤ _)⟩)
  dsimp only [Pt.U, Pt.locs, Pt.cells, Pt.slots] at X7 l7 y7 z7 st7 hQ7
  subst l7 y7 z7
  obtain ⟨rfl, Nq7, K7, u7_0, u7_1⟩ := hQ7
  have KK7 : Keep h0 T7.heap [] := KK6.trans K7 (allS (Or.inr sz_b5) all0)
  have OL7 := OL6.keep K7 (allS g_b5 all0)
  have N7 := Fr.app N6 Nq7
  have fc11 := (fc8.keep K7)
  have fc12 := (u6_1.keep K7 (ninS (Ne.symm (Nat.ne_of_lt (Nat.lt_of_lt_of_le F_value_b5.lt u6_0))) nin0))
  obtain ⟨fs, hr, hrun, hended, hW, hsame⟩ := X7.leave (v := some (.ref b5)) (fun h => by rw [Bd.returns] at h; cases h)
  refine ⟨_, _, pre0 _ ?_, hrun, hended, _, _, rfl, ?_, ⟨_, rfl⟩, hW, hsame.mono (by decide) (by decide)⟩
  · show SS p e below s₁ m 0 #[iv p1] [] _
    refine st3 _ ?_
    show SS p e below T3 m 3 #[iv p1] [(.int p2)] _
    refine XS.ifNo X3.here hx rfl (hb hby d19_3) rfl ((if0 _ _).trans (feq pr2).1) ?_
    show SS p e below T3 m 6 #[iv p1] [] _
    refine XS.iloadN X3.here hx rfl (hb hby d19_6) rfl ?_
    show SS p e below T3 m 7 #[iv p1] [(.int p1)] _
    refine st4 _ ?_
    show SS p e below T4 m 10 #[iv p1] [(.int (1 : Int32))] _
    refine XS.ifNo X4.here hx rfl (hb hby d19_10) rfl ((if0 _ _).trans (feq (by decide : ¬ ((1 : Int32) = (0 : Int32)))).1) ?_
    show SS p e below T4 m 13 #[iv p1] [] _
    refine st5 _ ?_
    show SS p e below T5 m 16 #[iv p1] [(.ref b5)] _
    refine XS.dup X5.here hx rfl (hb hby d19_16) rfl rfl ?_
    refine XS.iloadN X5.here hx rfl (hb hby d19_17) rfl ?_
    show SS p e below T5 m 18 #[iv p1] [(.int p1), (.ref b5), (.ref b5)] _
    refine st6 _ ?_
    show SS p e below T6 m 21 #[iv p1] [(.ref b6_0), (.ref b5), (.ref b5)] _
    refine XS.iconst X6.here hx rfl (hb hby d19_21) ?_
    show SS p e below T6 m 22 #[iv p1] [(.int (0 : Int32)), (.ref b6_0), (.ref b5), (.ref b5)] _
    refine st7.trans ?_
    show SS p e below T7 m 25 #[iv p1] [(.ref b5)] _
    jvm_step X7.here [X7.here.top, hx, (hb hby d19_25), X7.method', Bd.returns, Value.isRef, FieldType.isReference]
    first | (intro acts; rw [hr _ acts rfl rfl rfl]) | rw [hr _ _ rfl rfl rfl]
    exact Steps.refl _
  · show Q_rm19_1 Z p1 p2 h0 n0 _ T7.heap _
    exact ⟨b5, b6_0, kx6_0, rfl, N7, KK7, sz_b5, sz_b6_0, (Nat.ne_of_lt (Nat.lt_of_lt_of_le F_value_b5.lt u6_0)), fc11, u7_1, u7_0, fc12⟩
def Q_rm1_2 (Z : State) (p1 : Int32) (p2 : Int32) (p3 : Int32) (p4 : Int32) (h0 : Heap) (n0 : Nat) (v : Option Value) (h : Heap) (L : List Loc) : Prop := ∃ b5_0 : Addr, ∃ b5_1 : Addr, ∃ kx5_0 : ClassId, v = some (.ref b5_0) ∧ Fr n0 L ∧ Keep h0 h [] ∧ h0.size ≤ b5_0 ∧ h0.size ≤ b5_1 ∧ b5_0 ≠ b5_1 ∧ Exa Z h b5_0 "java/lang/String" ∧ Fld Z h b5_0 "java/lang/String" "coder" "B" (.int (0 : Int32)) ∧ Fld Z h b5_0 "java/lang/String" "value" "[B" (.ref b5_1) ∧ Arv Z h b5_1 kx5_0 .byte (1 : Int32) [(.int ((p1.toInt8.toInt32).toInt8.toInt32))] (.int (0 : Int32))
set_option maxRecDepth 65536 in
set_option maxHeartbeats 40000000 in
theorem rm1_2 (l : Launch) (Z : State) (a0 : Array Value) (hw : ∀ d ∈ tables_1, d.before a0 Z = true) (ws : List Jvm.Cond) (p1 : Int32) (p2 : Int32) (p3 : Int32) (p4 : Int32) (h0 : Heap) (n0 : Nat) (OL0 : Old Z n0 h0) (pr1 : Sta Z Z.heap "java/lang/String" "COMPACT_STRINGS" "Z" (.int p4)) (pr2 : ¬ (p4 = (0 : Int32))) (pr3 : ¬ ((255 : Int32) < p1)) :
    MetFree l mn1 (head1 (Jvm.Cond.code mn1 method_2_code 4 (some (.object "java/lang/String")) :: ws) ({ frames := 3, cells := 2, slots := 5, locals := 39 } : Room)) (fun a U => a = #[(.int (1 : Int32)), (.int p1), (.int p2), (.int p3)] ∧ Z.Warmed39 U.vm ∧ U.heap = h0) (fun _ _ _ _ _ => True) (fun _ U o U' => ∃ v L, o = .returned v ∧ Q_rm1_2 Z p1 p2 p3 p4 h0 n0 v U'.heap L ∧ FrameEnd U o U' L ({ frames := 3, cells := 2, slots := 5, locals := 39 } : Room).cells ({ frames := 3, cells := 2, slots := 5, locals := 39 } : Room).slots) := by
  refine MetFree.of_bodySF (plainFor_of_name pn_1) hisR ?_
  intro p e s m args below meth c s₁ Bd hml0 hP hK
  obtain ⟨rfl, hZ, hh⟩ := hP
  have hx := Bd.exec
  have hby := Bd.bytes
  have hml : c.maxLocals = 4 := hml0
  have hown : s.vm.findClass "com/example/aeroslice/aeroslice/SrsDefaultsOfPinLaw" = some m.cls := findClass_of_methodNamed Bd.named
  have hnm := (name_of_methodNamed Bd.named Bd.method).1
  have X0 : Stand p l e ({ frames := 3, cells := 2, slots := 5, locals := 39 } : Room) s m #[(.int (1 : Int32)), (.int p1), (.int p2), (.int p3)] below meth c s₁ [] 0 0 := Stand.of_body Bd
  have e0 : s₁.heap = h0 := by rw [← hh, Bd.state]; rfl
  have N0 := Fr.nil n0
  have pre0 : ∀ t, SS p e below s₁ m 0 #[iv (1 : Int32), iv p1, iv p2, iv p3] [] t → Steps p.tables e below (s₁.setTop (entryFrame m #[(.int (1 : Int32)), (.int p1), (.int p2), (.int p3)] 4)) t := fun t k => castTop (ef_1_14 m p1 p2 p3) k
  obtain ⟨_, _, ⟨T5, L5, k5, n5⟩, -, X5, ⟨Lc5, hQ5, l5, y5, z5⟩, st5⟩ := Jvm.LawKit.callS X0 hx (y := mn19) hown (mvT hZ (wd98 hw)) (mvT hZ (wd99 hw)) (mvT hZ (wd7 hw)) (mvT hZ (wd100 hw)) (by decide) (backOf (W := 0) (rm19_1 l Z a0 hw [] p1 p4 h0 n0 OL0 pr1 pr2 pr3) hZ (wd100 hw) (wd7 hw) (by decide) (by decide)) (g := (mkF m 21 #[iv (1 : Int32), iv p1, iv p2, iv p3] [(.int p1)])) rfl (by rw [hml]; rfl) (argsL := [(.int p1)]) (rest := []) (lenOf pd_13 rfl) rfl (by show 2 * 0 + _ ≤ _; exact Nat.le_of_eq rfl) (hb hby d1_21) (fun _ _ => ⟨rfl, e0, (by decide : 0 + 2 ≤ _), (by decide : 0 + 5 ≤ _)⟩)
  dsimp only [Pt.U, Pt.locs, Pt.cells, Pt.slots] at X5 l5 y5 z5 st5 hQ5
  subst l5 y5 z5
  obtain ⟨b5_0, b5_1, kx5_0, rfl, Nq5, K5, u5_0, u5_1, u5_2, u5_3, u5_4, u5_5, u5_6⟩ := hQ5
  have KK5 : Keep h0 T5.heap [] := (Keep.refl h0 []).trans K5 all0
  have OL5 := OL0.keep K5 all0
  have g_b5_0 : n0 ≤ b5_0 := Nat.le_trans (Nat.le_trans (Nat.le_of_eq OL0.1.symm) OL0.2.1) u5_0
  have sz_b5_0 : h0.size ≤ b5_0 := Nat.le_trans (Keep.refl h0 []).1 u5_0
  have g_b5_1 : n0 ≤ b5_1 := Nat.le_trans (Nat.le_trans (Nat.le_of_eq OL0.1.symm) OL0.2.1) u5_1
  have sz_b5_1 : h0.size ≤ b5_1 := Nat.le_trans (Keep.refl h0 []).1 u5_1
  have N5 := Fr.app N0 Nq5
  obtain ⟨fs, hr, hrun, hended, hW, hsame⟩ := X5.leave (v := some (.ref b5_0)) (fun h => by rw [Bd.returns] at h; cases h)
  refine ⟨_, _, pre0 _ ?_, hrun, hended, _, _, rfl, ?_, ⟨_, rfl⟩, hW, hsame.mono (by decide) (by decide)⟩
  · show SS p e below s₁ m 0 #[iv (1 : Int32), iv p1, iv p2, iv p3] [] _
    refine XS.iloadN X0.here hx rfl (hb hby d1_0) rfl ?_
    show SS p e below s₁ m 1 #[iv (1 : Int32), iv p1, iv p2, iv p3] [(.int (1 : Int32))] _
    refine XS.ifYes X0.here hx rfl (pc0 := 1) (pc' := 15) rfl (hb hby d1_1) rfl ((if0 _ _).trans (feq (by decide : ¬ ((1 : Int32) = (0 : Int32)))).2) (by decide) (by decide) ?_
    show SS p e below s₁ m 15 #[iv (1 : Int32), iv p1, iv p2, iv p3] [] _
    refine XS.iloadN X0.here hx rfl (hb hby d1_15) rfl ?_
    refine XS.iconst X0.here hx rfl (hb hby d1_16) ?_
    show SS p e below s₁ m 17 #[iv (1 : Int32), iv p1, iv p2, iv p3] [(.int (1 : Int32)), (.int (1 : Int32))] _
    refine XS.icmpNo X0.here hx rfl (hb hby d1_17) rfl (teq (rfl : (1 : Int32) = (1 : Int32))).2 ?_
    show SS p e below s₁ m 20 #[iv (1 : Int32), iv p1, iv p2, iv p3] [] _
    refine XS.iloadN X0.here hx rfl (hb hby d1_20) rfl ?_
    show SS p e below s₁ m 21 #[iv (1 : Int32), iv p1, iv p2, iv p3] [(.int p1)] _
    refine st5 _ ?_
    show SS p e below T5 m 24 #[iv (1 : Int32), iv p1, iv p2, iv p3] [(.ref b5_0)] _
    jvm_step X5.here [X5.here.top, hx, (hb hby d1_24), X5.method', Bd.returns, Value.isRef, FieldType.isReference]
    first | (intro acts; rw [hr _ acts rfl rfl rfl]) | rw [hr _ _ rfl rfl rfl]
    exact Steps.refl _
  · show Q_rm1_2 Z p1 p2 p3 p4 h0 n0 _ T5.heap _
    exact ⟨b5_0, b5_1, kx5_0, rfl, N5, KK5, sz_b5_0, sz_b5_1, u5_2, u5_3, u5_4, u5_5, u5_6⟩
theorem d1_25 : decode method_2_code 25 = .ok (.iload_n 0, 1) := by decide +kernel
theorem d1_26 : decode method_2_code 26 = .ok (.iconst 2, 1) := by decide +kernel
theorem d1_27 : decode method_2_code 27 = .ok (.if_icmp .ne 22, 3) := by decide +kernel
theorem d1_30 : decode method_2_code 30 = .ok (.new 7, 3) := by decide +kernel
theorem d1_33 : decode method_2_code 33 = .ok (.dup, 1) := by decide +kernel
theorem d1_34 : decode method_2_code 34 = .ok (.iconst 2, 1) := by decide +kernel
theorem d1_35 : decode method_2_code 35 = .ok (.newarray .char, 2) := by decide +kernel
theorem d1_37 : decode method_2_code 37 = .ok (.dup, 1) := by decide +kernel
theorem d1_38 : decode method_2_code 38 = .ok (.iconst 0, 1) := by decide +kernel
theorem d1_39 : decode method_2_code 39 = .ok (.iload_n 1, 1) := by decide +kernel
theorem d1_40 : decode method_2_code 40 = .ok (.castore, 1) := by decide +kernel
theorem d1_41 : decode method_2_code 41 = .ok (.dup, 1) := by decide +kernel
theorem d1_42 : decode method_2_code 42 = .ok (.iconst 1, 1) := by decide +kernel
theorem d1_43 : decode method_2_code 43 = .ok (.iload_n 2, 1) := by decide +kernel
theorem d1_44 : decode method_2_code 44 = .ok (.castore, 1) := by decide +kernel
theorem d1_45 : decode method_2_code 45 = .ok (.invokespecial 9, 3) := by decide +kernel
theorem d3_27 : decode jdk_42_method_149_code 27 = .ok (.getstatic 38, 3) := by decide +kernel
theorem d3_30 : decode jdk_42_method_149_code 30 = .ok (.ifCond .eq 28, 3) := by decide +kernel
theorem d3_33 : decode jdk_42_method_149_code 33 = .ok (.aload_n 1, 1) := by decide +kernel
theorem d3_34 : decode jdk_42_method_149_code 34 = .ok (.iload_n 2, 1) := by decide +kernel
theorem d3_35 : decode jdk_42_method_149_code 35 = .ok (.iload_n 3, 1) := by decide +kernel
theorem d3_36 : decode jdk_42_method_149_code 36 = .ok (.invokestatic 177, 3) := by decide +kernel
theorem d5_0 : decode jdk_52_method_16_code 0 = .ok (.iload_n 2, 1) := by decide +kernel
theorem d5_1 : decode jdk_52_method_16_code 1 = .ok (.newarray .byte, 2) := by decide +kernel
theorem d5_3 : decode jdk_52_method_16_code 3 = .ok (.astore_n 3, 1) := by decide +kernel
theorem d5_4 : decode jdk_52_method_16_code 4 = .ok (.aload_n 0, 1) := by decide +kernel
theorem d5_5 : decode jdk_52_method_16_code 5 = .ok (.iload_n 1, 1) := by decide +kernel
theorem d5_6 : decode jdk_52_method_16_code 6 = .ok (.aload_n 3, 1) := by decide +kernel
theorem d5_7 : decode jdk_52_method_16_code 7 = .ok (.iconst 0, 1) := by decide +kernel
theorem d5_8 : decode jdk_52_method_16_code 8 = .ok (.iload_n 2, 1) := by decide +kernel
theorem d5_9 : decode jdk_52_method_16_code 9 = .ok (.invokestatic 115, 3) := by decide +kernel
theorem d6_0 : decode jdk_52_method_21_code 0 = .ok (.iconst 0, 1) := by decide +kernel
theorem d6_1 : decode jdk_52_method_21_code 1 = .ok (.istore 5, 2) := by decide +kernel
theorem d6_3 : decode jdk_52_method_21_code 3 = .ok (.iload 5, 2) := by decide +kernel
theorem d6_5 : decode jdk_52_method_21_code 5 = .ok (.iload 4, 2) := by decide +kernel
theorem d6_7 : decode jdk_52_method_21_code 7 = .ok (.if_icmp .ge 37, 3) := by decide +kernel
theorem d6_10 : decode jdk_52_method_21_code 10 = .ok (.aload_n 0, 1) := by decide +kernel
theorem d6_11 : decode jdk_52_method_21_code 11 = .ok (.iload_n 1, 1) := by decide +kernel
theorem d6_12 : decode jdk_52_method_21_code 12 = .ok (.caload, 1) := by decide +kernel
theorem d6_13 : decode jdk_52_method_21_code 13 = .ok (.istore 6, 2) := by decide +kernel
theorem d6_15 : decode jdk_52_method_21_code 15 = .ok (.iload 6, 2) := by decide +kernel
theorem d6_17 : decode jdk_52_method_21_code 17 = .ok (.sipush 255, 3) := by decide +kernel
theorem d6_20 : decode jdk_52_method_21_code 20 = .ok (.if_icmp .le 6, 3) := by decide +kernel
theorem d6_23 : decode jdk_52_method_21_code 23 = .ok (.iload 5, 2) := by decide +kernel
theorem d6_25 : decode jdk_52_method_21_code 25 = .ok (.ireturn, 1) := by decide +kernel
theorem ef_6_17 (m : MethodId) (x0 : Addr) (x2 : Addr) : entryFrame m #[(.ref x0), (.int (0 : Int32)), (.ref x2), (.int (0 : Int32)), (.int (2 : Int32))] 7 = mkF m 0 #[.val (.ref x0), .val (.int (0 : Int32)), .val (.ref x2), .val (.int (0 : Int32)), .val (.int (2 : Int32)), .unset, .unset] [] := by first | (simp [entryFrame, mkF, argsToLocals, Value.category]; done) | rfl
def Q_rm6_0 (Z : State) (a1 : Addr) (a2 : Addr) (p3 : Int32) (p4 : Int32) (k5 : ClassId) (h0 : Heap) (n0 : Nat) (v : Option Value) (h : Heap) (L : List Loc) : Prop := v = some (.int (0 : Int32)) ∧ Fr n0 L ∧ h = h0
set_option maxRecDepth 65536 in
set_option maxHeartbeats 40000000 in
theorem rm6_0 (l : Launch) (Z : State) (a0 : Array Value) (hw : ∀ d ∈ tables_1, d.before a0 Z = true) (ws : List Jvm.Cond) (a1 : Addr) (a2 : Addr) (p3 : Int32) (p4 : Int32) (k5 : ClassId) (h0 : Heap) (n0 : Nat) (OL0 : Old Z n0 h0) (pr1 : Arv Z h0 a1 k5 .char (2 : Int32) [(.int p3), (.int p4)] (.int (0 : Int32))) (pr2 : (255 : Int32) < p3) :
    MetFree l mn6 (head1 (Jvm.Cond.code mn6 jdk_52_method_21_code 7 (some .int) :: ws) ({ frames := 0, cells := 0, slots := 0, locals := 0 } : Room)) (fun a U => a = #[(.ref a1), (.int (0 : Int32)), (.ref a2), (.int (0 : Int32)), (.int (2 : Int32))] ∧ Z.Warmed39 U.vm ∧ U.heap = h0) (fun _ _ _ _ _ => True) (fun _ U o U' => ∃ v L, o = .returned v ∧ Q_rm6_0 Z a1 a2 p3 p4 k5 h0 n0 v U'.heap L ∧ FrameEnd U o U' L ({ frames := 0, cells := 0, slots := 0, locals := 0 } : Room).cells ({ frames := 0, cells := 0, slots := 0, locals := 0 } : Room).slots) := by
  refine MetFree.of_bodySF (plainFor_of_name pn_6) hisR ?_
  intro p e s m args below meth c s₁ Bd hml0 hP hK
  obtain ⟨rfl, hZ, hh⟩ := hP
  have hx := Bd.exec
  have hby := Bd.bytes
  have hml : c.maxLocals = 7 := hml0
  have hown : s.vm.findClass "java/lang/StringUTF16" = some m.cls := findClass_of_methodNamed Bd.named
  have hnm := (name_of_methodNamed Bd.named Bd.method).1
  have X0 : Stand p l e ({ frames := 0, cells := 0, slots := 0, locals := 0 } : Room) s m #[(.ref a1), (.int (0 : Int32)), (.ref a2), (.int (0 : Int32)), (.int (2 : Int32))] below meth c s₁ [] 0 0 := Stand.of_body Bd
  have e0 : s₁.heap = h0 := by rw [← hh, Bd.state]; rfl
  have N0 := Fr.nil n0
  have pre0 : ∀ t, SS p e below s₁ m 0 #[rv a1, iv (0 : Int32), rv a2, iv (0 : Int32), iv (2 : Int32), .unset, .unset] [] t → Steps p.tables e below (s₁.setTop (entryFrame m #[(.ref a1), (.int (0 : Int32)), (.ref a2), (.int (0 : Int32)), (.int (2 : Int32))] 7)) t := fun t k => castTop (ef_6_17 m a1 a2) k
  obtain ⟨cl6, Ar6, -, S6, -, Hs6, -⟩ := id pr1
  have hin6 : ¬ ((0 : Int32) < 0 ∨ cl6.slots.size ≤ ((0 : Int32)).toNatClampNeg) := inb_of S6 ⟨by decide, by decide⟩
  have hat6 : cl6.slots[((0 : Int32)).toNatClampNeg]? = some (.int p3) := Hs6.at hin6 rfl
  obtain ⟨fs, hr, hrun, hended, hW, hsame⟩ := X0.leave (v := some (.int (0 : Int32))) (fun h => by rw [Bd.returns] at h; cases h)
  refine ⟨_, _, pre0 _ ?_, hrun, hended, _, _, rfl, ?_, ⟨_, rfl⟩, hW, hsame.mono (by decide) (by decide)⟩
  · show SS p e below s₁ m 0 #[rv a1, iv (0 : Int32), rv a2, iv (0 : Int32), iv (2 : Int32), .unset, .unset] [] _
    refine XS.iconst X0.here hx rfl (hb hby d6_0) ?_
    refine XS.istore X0.here hx rfl (hb hby d6_1) rfl (l' := #[rv a1, iv (0 : Int32), rv a2, iv (0 : Int32), iv (2 : Int32), iv (0 : Int32), .unset]) rfl ?_
    refine XS.iload X0.here hx rfl (hb hby d6_3) rfl ?_
    refine XS.iload X0.here hx rfl (hb hby d6_5) rfl ?_
    show SS p e below s₁ m 7 #[rv a1, iv (0 : Int32), rv a2, iv (0 : Int32), iv (2 : Int32), iv (0 : Int32), .unset] [(.int (2 : Int32)), (.int (0 : Int32))] _
    refine XS.icmpNo X0.here hx rfl (hb hby d6_7) rfl (tlt (by decide : (0 : Int32) < (2 : Int32))).2.1 ?_
    show SS p e below s₁ m 10 #[rv a1, iv (0 : Int32), rv a2, iv (0 : Int32), iv (2 : Int32), iv (0 : Int32), .unset] [] _
    refine XS.aloadN X0.here hx rfl (hb hby d6_10) rfl rfl ?_
    refine XS.iloadN X0.here hx rfl (hb hby d6_11) rfl ?_
    show SS p e below s₁ m 12 #[rv a1, iv (0 : Int32), rv a2, iv (0 : Int32), iv (2 : Int32), iv (0 : Int32), .unset] [(.int (0 : Int32)), (.ref a1)] _
    refine X0.caload hx (j := (0 : Int32)) (v := (.int p3)) (by rw [e0]; exact Ar6.1) (State.isArrayOf_alike hZ.alike Ar6.2.1) Ar6.2.2 hin6 hat6 (g := (mkF m 12 #[rv a1, iv (0 : Int32), rv a2, iv (0 : Int32), iv (2 : Int32), iv (0 : Int32), .unset] [(.int (0 : Int32)), (.ref a1)])) rfl rfl (hb hby d6_12) _ ?_
    show SS p e below s₁ m 13 #[rv a1, iv (0 : Int32), rv a2, iv (0 : Int32), iv (2 : Int32), iv (0 : Int32), .unset] [(.int p3)] _
    refine XS.istore X0.here hx rfl (hb hby d6_13) rfl (l' := #[rv a1, iv (0 : Int32), rv a2, iv (0 : Int32), iv (2 : Int32), iv (0 : Int32), iv p3]) rfl ?_
    refine XS.iload X0.here hx rfl (hb hby d6_15) rfl ?_
    refine XS.sipush X0.here hx rfl (hb hby d6_17) ?_
    show SS p e below s₁ m 20 #[rv a1, iv (0 : Int32), rv a2, iv (0 : Int32), iv (2 : Int32), iv (0 : Int32), iv p3] [(.int (255 : Int32)), (.int p3)] _
    refine XS.icmpNo X0.here hx rfl (hb hby d6_20) rfl (tlt pr2).2.2.2 ?_
    show SS p e below s₁ m 23 #[rv a1, iv (0 : Int32), rv a2, iv (0 : Int32), iv (2 : Int32), iv (0 : Int32), iv p3] [] _
    refine XS.iload X0.here hx rfl (hb hby d6_23) rfl ?_
    show SS p e below s₁ m 25 #[rv a1, iv (0 : Int32), rv a2, iv (0 : Int32), iv (2 : Int32), iv (0 : Int32), iv p3] [(.int (0 : Int32))] _
    exact retI X0 hx Bd.returns (hb hby d6_25) hr
  · show Q_rm6_0 Z a1 a2 p3 p4 k5 h0 n0 _ s₁.heap _
    rw [e0]
    exact ⟨rfl, N0, rfl⟩
theorem pd_14 : parseMethodDescriptor "([CI[BII)I" = some ⟨[(.array .char), .int, (.array .byte), .int, .int], some .int⟩ := by decide +kernel
theorem d5_12 : decode jdk_52_method_16_code 12 = .ok (.istore 4, 2) := by decide +kernel
theorem d5_14 : decode jdk_52_method_16_code 14 = .ok (.iload 4, 2) := by decide +kernel
theorem d5_16 : decode jdk_52_method_16_code 16 = .ok (.iload_n 2, 1) := by decide +kernel
theorem d5_17 : decode jdk_52_method_16_code 17 = .ok (.if_icmp .eq 40, 3) := by decide +kernel
theorem d5_20 : decode jdk_52_method_16_code 20 = .ok (.aload_n 0, 1) := by decide +kernel
theorem d5_21 : decode jdk_52_method_16_code 21 = .ok (.iload_n 1, 1) := by decide +kernel
theorem d5_22 : decode jdk_52_method_16_code 22 = .ok (.iload_n 2, 1) := by decide +kernel
theorem d5_23 : decode jdk_52_method_16_code 23 = .ok (.invokestatic 119, 3) := by decide +kernel
theorem d14_0 : decode jdk_52_method_14_code 0 = .ok (.iload_n 2, 1) := by decide +kernel
theorem d14_1 : decode jdk_52_method_14_code 1 = .ok (.invokestatic 107, 3) := by decide +kernel
theorem d15_0 : decode jdk_52_method_2_code 0 = .ok (.iload_n 0, 1) := by decide +kernel
theorem d15_1 : decode jdk_52_method_2_code 1 = .ok (.invokestatic 11, 3) := by decide +kernel
theorem d16_0 : decode jdk_52_method_3_code 0 = .ok (.iload_n 0, 1) := by decide +kernel
theorem d16_1 : decode jdk_52_method_3_code 1 = .ok (.ifCond .ge 11, 3) := by decide +kernel
theorem d16_12 : decode jdk_52_method_3_code 12 = .ok (.iload_n 0, 1) := by decide +kernel
theorem d16_13 : decode jdk_52_method_3_code 13 = .ok (.ldc 20, 2) := by decide +kernel
theorem d16_15 : decode jdk_52_method_3_code 15 = .ok (.if_icmp .lt 40, 3) := by decide +kernel
theorem d16_55 : decode jdk_52_method_3_code 55 = .ok (.iload_n 0, 1) := by decide +kernel
theorem d16_56 : decode jdk_52_method_3_code 56 = .ok (.iconst 1, 1) := by decide +kernel
theorem d16_57 : decode jdk_52_method_3_code 57 = .ok (.ishl, 1) := by decide +kernel
theorem d16_58 : decode jdk_52_method_3_code 58 = .ok (.ireturn, 1) := by decide +kernel
theorem ef_16_18 (m : MethodId)  : entryFrame m #[(.int (2 : Int32))] 1 = mkF m 0 #[.val (.int (2 : Int32))] [] := by first | (simp [entryFrame, mkF, argsToLocals, Value.category]; done) | rfl
def Q_rm16_0 (Z : State)  (h0 : Heap) (n0 : Nat) (v : Option Value) (h : Heap) (L : List Loc) : Prop := v = some (.int (4 : Int32)) ∧ Fr n0 L ∧ h = h0
set_option maxRecDepth 65536 in
set_option maxHeartbeats 40000000 in
theorem rm16_0 (l : Launch) (Z : State) (a0 : Array Value) (hw : ∀ d ∈ tables_1, d.before a0 Z = true) (ws : List Jvm.Cond)  (h0 : Heap) (n0 : Nat) (OL0 : Old Z n0 h0)  :
    MetFree l mn16 (head1 (Jvm.Cond.code mn16 jdk_52_method_3_code 1 (some .int) :: ws) ({ frames := 0, cells := 0, slots := 0, locals := 0 } : Room)) (fun a U => a = #[(.int (2 : Int32))] ∧ Z.Warmed39 U.vm ∧ U.heap = h0) (fun _ _ _ _ _ => True) (fun _ U o U' => ∃ v L, o = .returned v ∧ Q_rm16_0 Z  h0 n0 v U'.heap L ∧ FrameEnd U o U' L ({ frames := 0, cells := 0, slots := 0, locals := 0 } : Room).cells ({ frames := 0, cells := 0, slots := 0, locals := 0 } : Room).slots) := by
  refine MetFree.of_bodySF (plainFor_of_name pn_6) hisR ?_
  intro p e s m args below meth c s₁ Bd hml0 hP hK
  obtain ⟨rfl, hZ, hh⟩ := hP
  have hx := Bd.exec
  have hby := Bd.bytes
  have hml : c.maxLocals = 1 := hml0
  have hown : s.vm.findClass "java/lang/StringUTF16" = some m.cls := findClass_of_methodNamed Bd.named
  have hnm := (name_of_methodNamed Bd.named Bd.method).1
  have X0 : Stand p l e ({ frames := 0, cells := 0, slots := 0, locals := 0 } : Room) s m #[(.int (2 : Int32))] below meth c s₁ [] 0 0 := Stand.of_body Bd
  have e0 : s₁.heap = h0 := by rw [← hh, Bd.state]; rfl
  have N0 := Fr.nil n0
  have pre0 : ∀ t, SS p e below s₁ m 0 #[iv (2 : Int32)] [] t → Steps p.tables e below (s₁.setTop (entryFrame m #[(.int (2 : Int32))] 1)) t := fun t k => castTop (ef_16_18 m ) k
  obtain ⟨fs, hr, hrun, hended, hW, hsame⟩ := X0.leave (v := some (.int (4 : Int32))) (fun h => by rw [Bd.returns] at h; cases h)
  refine ⟨_, _, pre0 _ ?_, hrun, hended, _, _, rfl, ?_, ⟨_, rfl⟩, hW, hsame.mono (by decide) (by decide)⟩
  · show SS p e below s₁ m 0 #[iv (2 : Int32)] [] _
    refine XS.iloadN X0.here hx rfl (hb hby d16_0) rfl ?_
    show SS p e below s₁ m 1 #[iv (2 : Int32)] [(.int (2 : Int32))] _
    refine XS.ifYes X0.here hx rfl (pc0 := 1) (pc' := 12) rfl (hb hby d16_1) rfl ((if0 _ _).trans (flt (by decide : ¬ ((2 : Int32) < (0 : Int32)))).2.1) (by decide) (by decide) ?_
    show SS p e below s₁ m 12 #[iv (2 : Int32)] [] _
    refine XS.iloadN X0.here hx rfl (hb hby d16_12) rfl ?_
    refine X0.ldcInt hx hown (mvT hZ (wd88 hw)) (g := (mkF m 13 #[iv (2 : Int32)] [(.int (2 : Int32))])) rfl (hb hby d16_13) _ ?_
    show SS p e below s₁ m 15 #[iv (2 : Int32)] [(.int (1073741823 : Int32)), (.int (2 : Int32))] _
    refine XS.icmpYes X0.here hx rfl (pc0 := 15) (pc' := 55) rfl (hb hby d16_15) rfl (tlt (by decide : (2 : Int32) < (1073741823 : Int32))).1 (by decide) (by decide) ?_
    show SS p e below s₁ m 55 #[iv (2 : Int32)] [] _
    refine XS.iloadN X0.here hx rfl (hb hby d16_55) rfl ?_
    refine XS.iconst X0.here hx rfl (hb hby d16_56) ?_
    show SS p e below s₁ m 57 #[iv (2 : Int32)] [(.int (1 : Int32)), (.int (2 : Int32))] _
    refine XS.ishl X0.here hx rfl (hb hby d16_57) rfl ?_
    show SS p e below s₁ m 58 #[iv (2 : Int32)] [(.int (4 : Int32))] _
    exact retI X0 hx Bd.returns (hb hby d16_58) hr
  · show Q_rm16_0 Z  h0 n0 _ s₁.heap _
    rw [e0]
    exact ⟨rfl, N0, rfl⟩
theorem pd_15 : parseMethodDescriptor "(I)I" = some ⟨[.int], some .int⟩ := by decide +kernel
theorem d15_4 : decode jdk_52_method_2_code 4 = .ok (.newarray .byte, 2) := by decide +kernel
theorem d15_6 : decode jdk_52_method_2_code 6 = .ok (.areturn, 1) := by decide +kernel
theorem ef_15_19 (m : MethodId)  : entryFrame m #[(.int (2 : Int32))] 1 = mkF m 0 #[.val (.int (2 : Int32))] [] := by first | (simp [entryFrame, mkF, argsToLocals, Value.category]; done) | rfl
def Q_rm15_0 (Z : State)  (h0 : Heap) (n0 : Nat) (v : Option Value) (h : Heap) (L : List Loc) : Prop := ∃ b2 : Addr, ∃ k2 : ClassId, v = some (.ref b2) ∧ Fr n0 L ∧ Keep h0 h [] ∧ h0.size ≤ b2 ∧ Arv Z h b2 k2 .byte (4 : Int32) [(.int (0 : Int32)), (.int (0 : Int32)), (.int (0 : Int32)), (.int (0 : Int32))] (.int (0 : Int32))
set_option maxRecDepth 65536 in
set_option maxHeartbeats 40000000 in
theorem rm15_0 (l : Launch) (Z : State) (a0 : Array Value) (hw : ∀ d ∈ tables_1, d.before a0 Z = true) (ws : List Jvm.Cond)  (h0 : Heap) (n0 : Nat) (OL0 : Old Z n0 h0)  :
    MetFree l mn15 (head1 (Jvm.Cond.code mn15 jdk_52_method_2_code 1 (some (.array .byte)) :: ws) ({ frames := 1, cells := 1, slots := 4, locals := 12 } : Room)) (fun a U => a = #[(.int (2 : Int32))] ∧ Z.Warmed39 U.vm ∧ U.heap = h0) (fun _ _ _ _ _ => True) (fun _ U o U' => ∃ v L, o = .returned v ∧ Q_rm15_0 Z  h0 n0 v U'.heap L ∧ FrameEnd U o U' L ({ frames := 1, cells := 1, slots := 4, locals := 12 } : Room).cells ({ frames := 1, cells := 1, slots := 4, locals := 12 } : Room).slots) := by
  refine MetFree.of_bodySF (plainFor_of_name pn_6) hisR ?_
  intro p e s m args below meth c s₁ Bd hml0 hP hK
  obtain ⟨rfl, hZ, hh⟩ := hP
  have hx := Bd.exec
  have hby := Bd.bytes
  have hml : c.maxLocals = 1 := hml0
  have hown : s.vm.findClass "java/lang/StringUTF16" = some m.cls := findClass_of_methodNamed Bd.named
  have hnm := (name_of_methodNamed Bd.named Bd.method).1
  have X0 : Stand p l e ({ frames := 1, cells := 1, slots := 4, locals := 12 } : Room) s m #[(.int (2 : Int32))] below meth c s₁ [] 0 0 := Stand.of_body Bd
  have e0 : s₁.heap = h0 := by rw [← hh, Bd.state]; rfl
  have N0 := Fr.nil n0
  have pre0 : ∀ t, SS p e below s₁ m 0 #[iv (2 : Int32)] [] t → Steps p.tables e below (s₁.setTop (entryFrame m #[(.int (2 : Int32))] 1)) t := fun t k => castTop (ef_15_19 m ) k
  obtain ⟨_, _, ⟨T1, L1, k1, n1⟩, -, X1, ⟨Lc1, hQ1, l1, y1, z1⟩, st1⟩ := Jvm.LawKit.callS X0 hx (y := mn16) hown (mvT hZ (wd85 hw)) (mvT hZ (wd86 hw)) (mvT hZ (wd22 hw)) (mvT hZ (wd87 hw)) (by decide) (backOf (W := 0) (rm16_0 l Z a0 hw []  h0 n0 OL0 ) hZ (wd87 hw) (wd22 hw) (by decide) (by decide)) (g := (mkF m 1 #[iv (2 : Int32)] [(.int (2 : Int32))])) rfl (by rw [hml]; rfl) (argsL := [(.int (2 : Int32))]) (rest := []) (lenOf pd_15 rfl) rfl (by show 2 * 0 + _ ≤ _; exact Nat.le_of_eq rfl) (hb hby d15_1) (fun _ _ => ⟨rfl, e0, (by decide : 0 + 0 ≤ _), (by decide : 0 + 0 ≤ _)⟩)
  dsimp only [Pt.U, Pt.locs, Pt.cells, Pt.slots] at X1 l1 y1 z1 st1 hQ1
  subst l1 y1 z1
  obtain ⟨rfl, Nq1, ec1⟩ := hQ1
  have N1 := Fr.app N0 Nq1
  obtain ⟨T2, h2, k2, X2, e2, E2, A2, st2⟩ := newP (aty := .byte) X1 hx hZ (wd24 hw) ec1 (g := (mkF m 4 #[iv (2 : Int32)] [(.int (4 : Int32))])) rfl (hb hby d15_4) rfl (by decide) (cap := 4) (by decide) (by decide) (by decide) (by decide)
  obtain ⟨b2, g2⟩ : ∃ z, z = h0.size := ⟨_, rfl⟩
  rw [← g2] at A2 st2
  have V2 : Arv Z h2 b2 k2 .byte (4 : Int32) [(.int (0 : Int32)), (.int (0 : Int32)), (.int (0 : Int32)), (.int (0 : Int32))] (.int (0 : Int32)) := (Arv.new A2 (by decide)).pad (pad_rep [] (.int (0 : Int32)) 4)
  have g_b2 : n0 ≤ b2 := (Nat.le_trans (Nat.le_trans (Nat.le_of_eq OL0.1.symm) OL0.2.1) (Nat.le_of_eq g2.symm))
  have sz_b2 : h0.size ≤ b2 := (Nat.le_trans (Keep.refl h0 []).1 (Nat.le_of_eq g2.symm))
  have KK2 : Keep h0 h2 [] := (Keep.refl h0 []).ext E2
  have OL2 := OL0.ext E2
  obtain ⟨fs, hr, hrun, hended, hW, hsame⟩ := X2.leave (v := some (.ref b2)) (fun h => by rw [Bd.returns] at h; cases h)
  refine ⟨_, _, pre0 _ ?_, hrun, hended, _, _, rfl, ?_, ⟨_, rfl⟩, hW, hsame.mono (by decide) (by decide)⟩
  · show SS p e below s₁ m 0 #[iv (2 : Int32)] [] _
    refine XS.iloadN X0.here hx rfl (hb hby d15_0) rfl ?_
    show SS p e below s₁ m 1 #[iv (2 : Int32)] [(.int (2 : Int32))] _
    refine st1 _ ?_
    show SS p e below T1 m 4 #[iv (2 : Int32)] [(.int (4 : Int32))] _
    refine st2 _ ?_
    show SS p e below T2 m 6 #[iv (2 : Int32)] [(.ref b2)] _
    jvm_step X2.here [X2.here.top, hx, (hb hby d15_6), X2.method', Bd.returns, Value.isRef, FieldType.isReference]
    first | (intro acts; rw [hr _ acts rfl rfl rfl]) | rw [hr _ _ rfl rfl rfl]
    exact Steps.refl _
  · show Q_rm15_0 Z  h0 n0 _ T2.heap _
    rw [e2]
    exact ⟨b2, k2, rfl, N1, KK2, sz_b2, V2⟩
theorem pd_16 : parseMethodDescriptor "(I)[B" = some ⟨[.int], some (.array .byte)⟩ := by decide +kernel
theorem d14_4 : decode jdk_52_method_14_code 4 = .ok (.astore_n 3, 1) := by decide +kernel
theorem d14_5 : decode jdk_52_method_14_code 5 = .ok (.iconst 0, 1) := by decide +kernel
theorem d14_6 : decode jdk_52_method_14_code 6 = .ok (.istore 4, 2) := by decide +kernel
theorem d14_8 : decode jdk_52_method_14_code 8 = .ok (.iload 4, 2) := by decide +kernel
theorem d14_10 : decode jdk_52_method_14_code 10 = .ok (.iload_n 2, 1) := by decide +kernel
theorem d14_11 : decode jdk_52_method_14_code 11 = .ok (.if_icmp .ge 21, 3) := by decide +kernel
theorem d14_14 : decode jdk_52_method_14_code 14 = .ok (.aload_n 3, 1) := by decide +kernel
theorem d14_15 : decode jdk_52_method_14_code 15 = .ok (.iload 4, 2) := by decide +kernel
theorem d14_17 : decode jdk_52_method_14_code 17 = .ok (.aload_n 0, 1) := by decide +kernel
theorem d14_18 : decode jdk_52_method_14_code 18 = .ok (.iload_n 1, 1) := by decide +kernel
theorem d14_19 : decode jdk_52_method_14_code 19 = .ok (.caload, 1) := by decide +kernel
theorem d14_20 : decode jdk_52_method_14_code 20 = .ok (.invokestatic 111, 3) := by decide +kernel
def Q_rm17_1 (Z : State) (a1 : Addr) (p2 : Int32) (k5 : ClassId) (h0 : Heap) (n0 : Nat) (v : Option Value) (h : Heap) (L : List Loc) : Prop := v = none ∧ Fr n0 L ∧ Keep h0 h [a1] ∧ Arv Z h a1 k5 .byte (4 : Int32) [(.int (((p2 >>> ((0 : Int32) &&& 31)).toInt8.toInt32).toInt8.toInt32)), (.int (((p2 >>> ((8 : Int32) &&& 31)).toInt8.toInt32).toInt8.toInt32)), (.int (0 : Int32)), (.int (0 : Int32))] (.int (0 : Int32))
set_option maxRecDepth 65536 in
set_option maxHeartbeats 40000000 in
theorem rm17_1 (l : Launch) (Z : State) (a0 : Array Value) (hw : ∀ d ∈ tables_1, d.before a0 Z = true) (ws : List Jvm.Cond) (a1 : Addr) (p2 : Int32) (k5 : ClassId) (h0 : Heap) (n0 : Nat) (OL0 : Old Z n0 h0) (pr1 : Sta Z Z.heap "java/lang/StringUTF16" "$assertionsDisabled" "Z" (.int (1 : Int32))) (pr2 : Sta Z Z.heap "java/lang/StringUTF16" "HI_BYTE_SHIFT" "I" (.int (0 : Int32))) (pr3 : Arv Z h0 a1 k5 .byte (4 : Int32) [(.int (0 : Int32)), (.int (0 : Int32)), (.int (0 : Int32)), (.int (0 : Int32))] (.int (0 : Int32))) (pr4 : n0 ≤ a1) (pr5 : Sta Z Z.heap "java/lang/StringUTF16" "LO_BYTE_SHIFT" "I" (.int (8 : Int32))) :
    MetFree l mn17 (head1 (Jvm.Cond.code mn17 jdk_52_method_4_code 3 none :: ws) ({ frames := 0, cells := 0, slots := 0, locals := 0 } : Room)) (fun a U => a = #[(.ref a1), (.int (0 : Int32)), (.int p2)] ∧ Z.Warmed39 U.vm ∧ U.heap = h0) (fun _ _ _ _ _ => True) (fun _ U o U' => ∃ v L, o = .returned v ∧ Q_rm17_1 Z a1 p2 k5 h0 n0 v U'.heap L ∧ FrameEnd U o U' L ({ frames := 0, cells := 0, slots := 0, locals := 0 } : Room).cells ({ frames := 0, cells := 0, slots := 0, locals := 0 } : Room).slots) := by
  refine MetFree.of_bodySF (plainFor_of_name pn_6) hisR ?_
  intro p e s m args below meth c s₁ Bd hml0 hP hK
  obtain ⟨rfl, hZ, hh⟩ := hP
  have hx := Bd.exec
  have hby := Bd.bytes
  have hml : c.maxLocals = 3 := hml0
  have hown : s.vm.findClass "java/lang/StringUTF16" = some m.cls := findClass_of_methodNamed Bd.named
  have hnm := (name_of_methodNamed Bd.named Bd.method).1
  have X0 : Stand p l e ({ frames := 0, cells := 0, slots := 0, locals := 0 } : Room) s m #[(.ref a1), (.int (0 : Int32)), (.int p2)] below meth c s₁ [] 0 0 := Stand.of_body Bd
  have e0 : s₁.heap = h0 := by rw [← hh, Bd.state]; rfl
  have N0 := Fr.nil n0
  have pre0 : ∀ t, SS p e below s₁ m 0 #[rv a1, iv (0 : Int32), iv p2] [] t → Steps p.tables e below (s₁.setTop (entryFrame m #[(.ref a1), (.int (0 : Int32)), (.int p2)] 3)) t := fun t k => castTop (ef_17_10 m a1 p2) k
  obtain ⟨T3, X3, e3, st3⟩ := getS2 X0 hx hZ hown (host := "") (Or.inl (wd92 hw)) Via.refl e0 (pr1.ext OL0.2) (g := (mkF m 0 #[rv a1, iv (0 : Int32), iv p2] [])) rfl (hb hby d17_0)
  obtain ⟨T4, X4, e4, st4⟩ := getS2 X3 hx hZ hown (host := "") (Or.inl (wd93 hw)) Via.refl e3 (pr2.ext OL0.2) (g := (mkF m 38 #[rv a1, iv (1 : Int32), iv p2] [(.int p2), (.int (0 : Int32)), (.ref a1)])) rfl (hb hby d17_38)
  obtain ⟨cl6, Ar6, q6, S6, M6, Hs6, G6⟩ := id pr3
  have hin6 : ¬ ((0 : Int32) < 0 ∨ cl6.slots.size ≤ ((0 : Int32)).toNatClampNeg) := inb_of S6 ⟨by decide, by decide⟩
  obtain ⟨T7, h7, X7, e7, W7, st7⟩ := stB X4 hx hZ e4 Ar6 (j := (0 : Int32)) hin6 (g := (mkF m 43 #[rv a1, iv (1 : Int32), iv p2] [(.int ((p2 >>> ((0 : Int32) &&& 31)).toInt8.toInt32)), (.int (0 : Int32)), (.ref a1)])) rfl rfl (hb hby d17_43)
  have V7 : Arv Z h7 a1 k5 .byte (4 : Int32) [(.int (((p2 >>> ((0 : Int32) &&& 31)).toInt8.toInt32).toInt8.toInt32)), (.int (0 : Int32)), (.int (0 : Int32)), (.int (0 : Int32))] (.int (0 : Int32)) := Arv.set Ar6 q6 S6 M6 Hs6 G6 (fits_nar_byte _) W7 0 rfl (Nat.le_of_ble_eq_true rfl)
  have KK7 : Keep h0 h7 [a1] := (Keep.refl h0 [a1]).wr W7 (Or.inl (List.mem_of_getElem? (i := 0) rfl))
  have OL7 := OL0.wr W7 pr4
  have N7 := Fr.snoc X7 N0 pr4
  obtain ⟨T8, X8, e8, st8⟩ := getS2 X7 hx hZ hown (host := "") (Or.inl (wd94 hw)) Via.refl e7 (pr5.ext OL7.2) (g := (mkF m 47 #[rv a1, iv (1 : Int32), iv p2] [(.int p2), (.int (1 : Int32)), (.ref a1)])) rfl (hb hby d17_47)
  obtain ⟨cl9, Ar9, q9, S9, M9, Hs9, G9⟩ := id V7
  have hin9 : ¬ ((1 : Int32) < 0 ∨ cl9.slots.size ≤ ((1 : Int32)).toNatClampNeg) := inb_of S9 ⟨by decide, by decide⟩
  obtain ⟨T10, h10, X10, e10, W10, st10⟩ := stB X8 hx hZ e8 Ar9 (j := (1 : Int32)) hin9 (g := (mkF m 52 #[rv a1, iv (1 : Int32), iv p2] [(.int ((p2 >>> ((8 : Int32) &&& 31)).toInt8.toInt32)), (.int (1 : Int32)), (.ref a1)])) rfl rfl (hb hby d17_52)
  have V10 : Arv Z h10 a1 k5 .byte (4 : Int32) [(.int (((p2 >>> ((0 : Int32) &&& 31)).toInt8.toInt32).toInt8.toInt32)), (.int (((p2 >>> ((8 : Int32) &&& 31)).toInt8.toInt32).toInt8.toInt32)), (.int (0 : Int32)), (.int (0 : Int32))] (.int (0 : Int32)) := Arv.set Ar9 q9 S9 M9 Hs9 G9 (fits_nar_byte _) W10 1 rfl (Nat.le_of_ble_eq_true rfl)
  have KK10 : Keep h0 h10 [a1] := KK7.wr W10 (Or.inl (List.mem_of_getElem? (i := 0) rfl))
  have OL10 := OL7.wr W10 pr4
  have N10 := Fr.snoc X10 N7 pr4
  obtain ⟨fs, hr, hrun, hended, hW, hsame⟩ := X10.leave (v := none) (fun _ => rfl)
  refine ⟨_, _, pre0 _ ?_, hrun, hended, _, _, rfl, ?_, ⟨_, rfl⟩, hW, hsame.mono (by decide) (by decide)⟩
  · show SS p e below s₁ m 0 #[rv a1, iv (0 : Int32), iv p2] [] _
    refine st3 _ ?_
    show SS p e below T3 m 3 #[rv a1, iv (0 : Int32), iv p2] [(.int (1 : Int32))] _
    refine XS.ifYes X3.here hx rfl (pc0 := 3) (pc' := 28) rfl (hb hby d17_3) rfl ((if0 _ _).trans (feq (by decide : ¬ ((1 : Int32) = (0 : Int32)))).2) (by decide) (by decide) ?_
    show SS p e below T3 m 28 #[rv a1, iv (0 : Int32), iv p2] [] _
    refine XS.iloadN X3.here hx rfl (hb hby d17_28) rfl ?_
    refine XS.iconst X3.here hx rfl (hb hby d17_29) ?_
    show SS p e below T3 m 30 #[rv a1, iv (0 : Int32), iv p2] [(.int (1 : Int32)), (.int (0 : Int32))] _
    refine XS.ishl X3.here hx rfl (hb hby d17_30) rfl ?_
    show SS p e below T3 m 31 #[rv a1, iv (0 : Int32), iv p2] [(.int (0 : Int32))] _
    refine XS.istoreN X3.here hx rfl (hb hby d17_31) rfl (l' := #[rv a1, iv (0 : Int32), iv p2]) rfl ?_
    refine XS.aloadN X3.here hx rfl (hb hby d17_32) rfl rfl ?_
    refine XS.iloadN X3.here hx rfl (hb hby d17_33) rfl ?_
    show SS p e below T3 m 34 #[rv a1, iv (0 : Int32), iv p2] [(.int (0 : Int32)), (.ref a1)] _
    refine XS.iinc X3.here hx rfl (hb hby d17_34) rfl (l' := #[rv a1, .val (.int ((0 : Int32) + (1 : Int32))), iv p2]) rfl ?_
    show SS p e below T3 m 37 #[rv a1, iv (1 : Int32), iv p2] [(.int (0 : Int32)), (.ref a1)] _
    refine XS.iloadN X3.here hx rfl (hb hby d17_37) rfl ?_
    show SS p e below T3 m 38 #[rv a1, iv (1 : Int32), iv p2] [(.int p2), (.int (0 : Int32)), (.ref a1)] _
    refine st4 _ ?_
    show SS p e below T4 m 41 #[rv a1, iv (1 : Int32), iv p2] [(.int (0 : Int32)), (.int p2), (.int (0 : Int32)), (.ref a1)] _
    refine XS.ishr X4.here hx rfl (hb hby d17_41) rfl ?_
    show SS p e below T4 m 42 #[rv a1, iv (1 : Int32), iv p2] [(.int (p2 >>> ((0 : Int32) &&& 31))), (.int (0 : Int32)), (.ref a1)] _
    refine XS.i2b X4.here hx rfl (hb hby d17_42) rfl ?_
    show SS p e below T4 m 43 #[rv a1, iv (1 : Int32), iv p2] [(.int ((p2 >>> ((0 : Int32) &&& 31)).toInt8.toInt32)), (.int (0 : Int32)), (.ref a1)] _
    refine st7 _ ?_
    show SS p e below T7 m 44 #[rv a1, iv (1 : Int32), iv p2] [] _
    refine XS.aloadN X7.here hx rfl (hb hby d17_44) rfl rfl ?_
    refine XS.iloadN X7.here hx rfl (hb hby d17_45) rfl ?_
    refine XS.iloadN X7.here hx rfl (hb hby d17_46) rfl ?_
    show SS p e below T7 m 47 #[rv a1, iv (1 : Int32), iv p2] [(.int p2), (.int (1 : Int32)), (.ref a1)] _
    refine st8 _ ?_
    show SS p e below T8 m 50 #[rv a1, iv (1 : Int32), iv p2] [(.int (8 : Int32)), (.int p2), (.int (1 : Int32)), (.ref a1)] _
    refine XS.ishr X8.here hx rfl (hb hby d17_50) rfl ?_
    show SS p e below T8 m 51 #[rv a1, iv (1 : Int32), iv p2] [(.int (p2 >>> ((8 : Int32) &&& 31))), (.int (1 : Int32)), (.ref a1)] _
    refine XS.i2b X8.here hx rfl (hb hby d17_51) rfl ?_
    show SS p e below T8 m 52 #[rv a1, iv (1 : Int32), iv p2] [(.int ((p2 >>> ((8 : Int32) &&& 31)).toInt8.toInt32)), (.int (1 : Int32)), (.ref a1)] _
    refine st10 _ ?_
    show SS p e below T10 m 53 #[rv a1, iv (1 : Int32), iv p2] [] _
    exact X10.returnOut hx Bd.returns (hb hby d17_53) hr
  · show Q_rm17_1 Z a1 p2 k5 h0 n0 _ T10.heap _
    rw [e10]
    exact ⟨rfl, N10, KK10, V10⟩
theorem d14_23 : decode jdk_52_method_14_code 23 = .ok (.iinc 1 1, 3) := by decide +kernel
theorem d14_26 : decode jdk_52_method_14_code 26 = .ok (.iinc 4 1, 3) := by decide +kernel
theorem d14_29 : decode jdk_52_method_14_code 29 = .ok (.goto (-21), 3) := by decide +kernel
theorem ef_17_20 (m : MethodId) (x0 : Addr) (x2 : Int32) : entryFrame m #[(.ref x0), (.int (1 : Int32)), (.int x2)] 3 = mkF m 0 #[.val (.ref x0), .val (.int (1 : Int32)), .val (.int x2)] [] := by first | (simp [entryFrame, mkF, argsToLocals, Value.category]; done) | rfl
def Q_rm17_2 (Z : State) (a1 : Addr) (p2 : Int32) (p5 : Int32) (p6 : Int32) (k7 : ClassId) (h0 : Heap) (n0 : Nat) (v : Option Value) (h : Heap) (L : List Loc) : Prop := v = none ∧ Fr n0 L ∧ Keep h0 h [a1] ∧ Arv Z h a1 k7 .byte (4 : Int32) [(.int p5), (.int p6), (.int (((p2 >>> ((0 : Int32) &&& 31)).toInt8.toInt32).toInt8.toInt32)), (.int (((p2 >>> ((8 : Int32) &&& 31)).toInt8.toInt32).toInt8.toInt32))] (.int (0 : Int32))
set_option maxRecDepth 65536 in
set_option maxHeartbeats 40000000 in
theorem rm17_2 (l : Launch) (Z : State) (a0 : Array Value) (hw : ∀ d ∈ tables_1, d.before a0 Z = true) (ws : List Jvm.Cond) (a1 : Addr) (p2 : Int32) (p5 : Int32) (p6 : Int32) (k7 : ClassId) (h0 : Heap) (n0 : Nat) (OL0 : Old Z n0 h0) (pr1 : Sta Z Z.heap "java/lang/StringUTF16" "$assertionsDisabled" "Z" (.int (1 : Int32))) (pr2 : Sta Z Z.heap "java/lang/StringUTF16" "HI_BYTE_SHIFT" "I" (.int (0 : Int32))) (pr3 : Arv Z h0 a1 k7 .byte (4 : Int32) [(.int p5), (.int p6), (.int (0 : Int32)), (.int (0 : Int32))] (.int (0 : Int32))) (pr4 : n0 ≤ a1) (pr5 : Sta Z Z.heap "java/lang/StringUTF16" "LO_BYTE_SHIFT" "I" (.int (8 : Int32))) :
    MetFree l mn17 (head1 (Jvm.Cond.code mn17 jdk_52_method_4_code 3 none :: ws) ({ frames := 0, cells := 0, slots := 0, locals := 0 } : Room)) (fun a U => a = #[(.ref a1), (.int (1 : Int32)), (.int p2)] ∧ Z.Warmed39 U.vm ∧ U.heap = h0) (fun _ _ _ _ _ => True) (fun _ U o U' => ∃ v L, o = .returned v ∧ Q_rm17_2 Z a1 p2 p5 p6 k7 h0 n0 v U'.heap L ∧ FrameEnd U o U' L ({ frames := 0, cells := 0, slots := 0, locals := 0 } : Room).cells ({ frames := 0, cells := 0, slots := 0, locals := 0 } : Room).slots) := by
  refine MetFree.of_bodySF (plainFor_of_name pn_6) hisR ?_
  intro p e s m args below meth c s₁ Bd hml0 hP hK
  obtain ⟨rfl, hZ, hh⟩ := hP
  have hx := Bd.exec
  have hby := Bd.bytes
  have hml : c.maxLocals = 3 := hml0
  have hown : s.vm.findClass "java/lang/StringUTF16" = some m.cls := findClass_of_methodNamed Bd.named
  have hnm := (name_of_methodNamed Bd.named Bd.method).1
  have X0 : Stand p l e ({ frames := 0, cells := 0, slots := 0, locals := 0 } : Room) s m #[(.ref a1), (.int (1 : Int32)), (.int p2)] below meth c s₁ [] 0 0 := Stand.of_body Bd
  have e0 : s₁.heap = h0 := by rw [← hh, Bd.state]; rfl
  have N0 := Fr.nil n0
  have pre0 : ∀ t, SS p e below s₁ m 0 #[rv a1, iv (1 : Int32), iv p2] [] t → Steps p.tables e below (s₁.setTop (entryFrame m #[(.ref a1), (.int (1 : Int32)), (.int p2)] 3)) t := fun t k => castTop (ef_17_20 m a1 p2) k
  obtain ⟨T3, X3, e3, st3⟩ := getS2 X0 hx hZ hown (host := "") (Or.inl (wd92 hw)) Via.refl e0 (pr1.ext OL0.2) (g := (mkF m 0 #[rv a1, iv (1 : Int32), iv p2] [])) rfl (hb hby d17_0)
  obtain ⟨T4, X4, e4, st4⟩ := getS2 X3 hx hZ hown (host := "") (Or.inl (wd93 hw)) Via.refl e3 (pr2.ext OL0.2) (g := (mkF m 38 #[rv a1, iv (3 : Int32), iv p2] [(.int p2), (.int (2 : Int32)), (.ref a1)])) rfl (hb hby d17_38)
  obtain ⟨cl8, Ar8, q8, S8, M8, Hs8, G8⟩ := id pr3
  have hin8 : ¬ ((2 : Int32) < 0 ∨ cl8.slots.size ≤ ((2 : Int32)).toNatClampNeg) := inb_of S8 ⟨by decide, by decide⟩
  obtain ⟨T9, h9, X9, e9, W9, st9⟩ := stB X4 hx hZ e4 Ar8 (j := (2 : Int32)) hin8 (g := (mkF m 43 #[rv a1, iv (3 : Int32), iv p2] [(.int ((p2 >>> ((0 : Int32) &&& 31)).toInt8.toInt32)), (.int (2 : Int32)), (.ref a1)])) rfl rfl (hb hby d17_43)
  have V9 : Arv Z h9 a1 k7 .byte (4 : Int32) [(.int p5), (.int p6), (.int (((p2 >>> ((0 : Int32) &&& 31)).toInt8.toInt32).toInt8.toInt32)), (.int (0 : Int32))] (.int (0 : Int32)) := Arv.set Ar8 q8 S8 M8 Hs8 G8 (fits_nar_byte _) W9 2 rfl (Nat.le_of_ble_eq_true rfl)
  have KK9 : Keep h0 h9 [a1] := (Keep.refl h0 [a1]).wr W9 (Or.inl (List.mem_of_getElem? (i := 0) rfl))
  have OL9 := OL0.wr W9 pr4
  have N9 := Fr.snoc X9 N0 pr4
  obtain ⟨T10, X10, e10, st10⟩ := getS2 X9 hx hZ hown (host := "") (Or.inl (wd94 hw)) Via.refl e9 (pr5.ext OL9.2) (g := (mkF m 47 #[rv a1, iv (3 : Int32), iv p2] [(.int p2), (.int (3 : Int32)), (.ref a1)])) rfl (hb hby d17_47)
  obtain ⟨cl11, Ar11, q11, S11, M11, Hs11, G11⟩ := id V9
  have hin11 : ¬ ((3 : Int32) < 0 ∨ cl11.slots.size ≤ ((3 : Int32)).toNatClampNeg) := inb_of S11 ⟨by decide, by decide⟩
  obtain ⟨T12, h12, X12, e12, W12, st12⟩ := stB X10 hx hZ e10 Ar11 (j := (3 : Int32)) hin11 (g := (mkF m 52 #[rv a1, iv (3 : Int32), iv p2] [(.int ((p2 >>> ((8 : Int32) &&& 31)).toInt8.toInt32)), (.int (3 : Int32)), (.ref a1)])) rfl rfl (hb hby d17_52)
  have V12 : Arv Z h12 a1 k7 .byte (4 : Int32) [(.int p5), (.int p6), (.int (((p2 >>> ((0 : Int32) &&& 31)).toInt8.toInt32).toInt8.toInt32)), (.int (((p2 >>> ((8 : Int32) &&& 31)).toInt8.toInt32).toInt8.toInt32))] (.int (0 : Int32)) := Arv.set Ar11 q11 S11 M11 Hs11 G11 (fits_nar_byte _) W12 3 rfl (Nat.le_of_ble_eq_true rfl)
  have KK12 : Keep h0 h12 [a1] := KK9.wr W12 (Or.inl (List.mem_of_getElem? (i := 0) rfl))
  have OL12 := OL9.wr W12 pr4
  have N12 := Fr.snoc X12 N9 pr4
  obtain ⟨fs, hr, hrun, hended, hW, hsame⟩ := X12.leave (v := none) (fun _ => rfl)
  refine ⟨_, _, pre0 _ ?_, hrun, hended, _, _, rfl, ?_, ⟨_, rfl⟩, hW, hsame.mono (by decide) (by decide)⟩
  · show SS p e below s₁ m 0 #[rv a1, iv (1 : Int32), iv p2] [] _
    refine st3 _ ?_
    show SS p e below T3 m 3 #[rv a1, iv (1 : Int32), iv p2] [(.int (1 : Int32))] _
    refine XS.ifYes X3.here hx rfl (pc0 := 3) (pc' := 28) rfl (hb hby d17_3) rfl ((if0 _ _).trans (feq (by decide : ¬ ((1 : Int32) = (0 : Int32)))).2) (by decide) (by decide) ?_
    show SS p e below T3 m 28 #[rv a1, iv (1 : Int32), iv p2] [] _
    refine XS.iloadN X3.here hx rfl (hb hby d17_28) rfl ?_
    refine XS.iconst X3.here hx rfl (hb hby d17_29) ?_
    show SS p e below T3 m 30 #[rv a1, iv (1 : Int32), iv p2] [(.int (1 : Int32)), (.int (1 : Int32))] _
    refine XS.ishl X3.here hx rfl (hb hby d17_30) rfl ?_
    show SS p e below T3 m 31 #[rv a1, iv (1 : Int32), iv p2] [(.int (2 : Int32))] _
    refine XS.istoreN X3.here hx rfl (hb hby d17_31) rfl (l' := #[rv a1, iv (2 : Int32), iv p2]) rfl ?_
    refine XS.aloadN X3.here hx rfl (hb hby d17_32) rfl rfl ?_
    refine XS.iloadN X3.here hx rfl (hb hby d17_33) rfl ?_
    show SS p e below T3 m 34 #[rv a1, iv (2 : Int32), iv p2] [(.int (2 : Int32)), (.ref a1)] _
    refine XS.iinc X3.here hx rfl (hb hby d17_34) rfl (l' := #[rv a1, .val (.int ((2 : Int32) + (1 : Int32))), iv p2]) rfl ?_
    show SS p e below T3 m 37 #[rv a1, iv (3 : Int32), iv p2] [(.int (2 : Int32)), (.ref a1)] _
    refine XS.iloadN X3.here hx rfl (hb hby d17_37) rfl ?_
    show SS p e below T3 m 38 #[rv a1, iv (3 : Int32), iv p2] [(.int p2), (.int (2 : Int32)), (.ref a1)] _
    refine st4 _ ?_
    show SS p e below T4 m 41 #[rv a1, iv (3 : Int32), iv p2] [(.int (0 : Int32)), (.int p2), (.int (2 : Int32)), (.ref a1)] _
    refine XS.ishr X4.here hx rfl (hb hby d17_41) rfl ?_
    show SS p e below T4 m 42 #[rv a1, iv (3 : Int32), iv p2] [(.int (p2 >>> ((0 : Int32) &&& 31))), (.int (2 : Int32)), (.ref a1)] _
    refine XS.i2b X4.here hx rfl (hb hby d17_42) rfl ?_
    show SS p e below T4 m 43 #[rv a1, iv (3 : Int32), iv p2] [(.int ((p2 >>> ((0 : Int32) &&& 31)).toInt8.toInt32)), (.int (2 : Int32)), (.ref a1)] _
    refine st9 _ ?_
    show SS p e below T9 m 44 #[rv a1, iv (3 : Int32), iv p2] [] _
    refine XS.aloadN X9.here hx rfl (hb hby d17_44) rfl rfl ?_
    refine XS.iloadN X9.here hx rfl (hb hby d17_45) rfl ?_
    refine XS.iloadN X9.here hx rfl (hb hby d17_46) rfl ?_
    show SS p e below T9 m 47 #[rv a1, iv (3 : Int32), iv p2] [(.int p2), (.int (3 : Int32)), (.ref a1)] _
    refine st10 _ ?_
    show SS p e below T10 m 50 #[rv a1, iv (3 : Int32), iv p2] [(.int (8 : Int32)), (.int p2), (.int (3 : Int32)), (.ref a1)] _
    refine XS.ishr X10.here hx rfl (hb hby d17_50) rfl ?_
    show SS p e below T10 m 51 #[rv a1, iv (3 : Int32), iv p2] [(.int (p2 >>> ((8 : Int32) &&& 31))), (.int (3 : Int32)), (.ref a1)] _
    refine XS.i2b X10.here hx rfl (hb hby d17_51) rfl ?_
    show SS p e below T10 m 52 #[rv a1, iv (3 : Int32), iv p2] [(.int ((p2 >>> ((8 : Int32) &&& 31)).toInt8.toInt32)), (.int (3 : Int32)), (.ref a1)] _
    refine st12 _ ?_
    show SS p e below T12 m 53 #[rv a1, iv (3 : Int32), iv p2] [] _
    exact X12.returnOut hx Bd.returns (hb hby d17_53) hr
  · show Q_rm17_2 Z a1 p2 p5 p6 k7 h0 n0 _ T12.heap _
    rw [e12]
    exact ⟨rfl, N12, KK12, V12⟩
theorem d14_32 : decode jdk_52_method_14_code 32 = .ok (.aload_n 3, 1) := by decide +kernel
theorem d14_33 : decode jdk_52_method_14_code 33 = .ok (.areturn, 1) := by decide +kernel
theorem ef_14_21 (m : MethodId) (x0 : Addr) : entryFrame m #[(.ref x0), (.int (0 : Int32)), (.int (2 : Int32))] 5 = mkF m 0 #[.val (.ref x0), .val (.int (0 : Int32)), .val (.int (2 : Int32)), .unset, .unset] [] := by first | (simp [entryFrame, mkF, argsToLocals, Value.category]; done) | rfl
def Q_rm14_0 (Z : State) (a1 : Addr) (p3 : Int32) (p4 : Int32) (k5 : ClassId) (h0 : Heap) (n0 : Nat) (v : Option Value) (h : Heap) (L : List Loc) : Prop := ∃ b2_0 : Addr, ∃ kx2_0 : ClassId, v = some (.ref b2_0) ∧ Fr n0 L ∧ Keep h0 h [] ∧ h0.size ≤ b2_0 ∧ Arv Z h b2_0 kx2_0 .byte (4 : Int32) [(.int (((p3 >>> ((0 : Int32) &&& 31)).toInt8.toInt32).toInt8.toInt32)), (.int (((p3 >>> ((8 : Int32) &&& 31)).toInt8.toInt32).toInt8.toInt32)), (.int (((p4 >>> ((0 : Int32) &&& 31)).toInt8.toInt32).toInt8.toInt32)), (.int (((p4 >>> ((8 : Int32) &&& 31)).toInt8.toInt32).toInt8.toInt32))] (.int (0 : Int32))
set_option maxRecDepth 65536 in
set_option maxHeartbeats 40000000 in
theorem rm14_0 (l : Launch) (Z : State) (a0 : Array Value) (hw : ∀ d ∈ tables_1, d.before a0 Z = true) (ws : List Jvm.Cond) (a1 : Addr) (p3 : Int32) (p4 : Int32) (k5 : ClassId) (h0 : Heap) (n0 : Nat) (OL0 : Old Z n0 h0) (pr1 : Arv Z h0 a1 k5 .char (2 : Int32) [(.int p3), (.int p4)] (.int (0 : Int32))) (pr2 : Sta Z Z.heap "java/lang/StringUTF16" "$assertionsDisabled" "Z" (.int (1 : Int32))) (pr3 : Sta Z Z.heap "java/lang/StringUTF16" "HI_BYTE_SHIFT" "I" (.int (0 : Int32))) (pr4 : Sta Z Z.heap "java/lang/StringUTF16" "LO_BYTE_SHIFT" "I" (.int (8 : Int32))) :
    MetFree l mn14 (head1 (Jvm.Cond.code mn14 jdk_52_method_14_code 5 (some (.array .byte)) :: ws) ({ frames := 2, cells := 1, slots := 4, locals := 24 } : Room)) (fun a U => a = #[(.ref a1), (.int (0 : Int32)), (.int (2 : Int32))] ∧ Z.Warmed39 U.vm ∧ U.heap = h0) (fun _ _ _ _ _ => True) (fun _ U o U' => ∃ v L, o = .returned v ∧ Q_rm14_0 Z a1 p3 p4 k5 h0 n0 v U'.heap L ∧ FrameEnd U o U' L ({ frames := 2, cells := 1, slots := 4, locals := 24 } : Room).cells ({ frames := 2, cells := 1, slots := 4, locals := 24 } : Room).slots) := by
  refine MetFree.of_bodySF (plainFor_of_name pn_6) hisR ?_
  intro p e s m args below meth c s₁ Bd hml0 hP hK
  obtain ⟨rfl, hZ, hh⟩ := hP
  have hx := Bd.exec
  have hby := Bd.bytes
  have hml : c.maxLocals = 5 := hml0
  have hown : s.vm.findClass "java/lang/StringUTF16" = some m.cls := findClass_of_methodNamed Bd.named
  have hnm := (name_of_methodNamed Bd.named Bd.method).1
  have X0 : Stand p l e ({ frames := 2, cells := 1, slots := 4, locals := 24 } : Room) s m #[(.ref a1), (.int (0 : Int32)), (.int (2 : Int32))] below meth c s₁ [] 0 0 := Stand.of_body Bd
  have e0 : s₁.heap = h0 := by rw [← hh, Bd.state]; rfl
  have N0 := Fr.nil n0
  have pre0 : ∀ t, SS p e below s₁ m 0 #[rv a1, iv (0 : Int32), iv (2 : Int32), .unset, .unset] [] t → Steps p.tables e below (s₁.setTop (entryFrame m #[(.ref a1), (.int (0 : Int32)), (.int (2 : Int32))] 5)) t := fun t k => castTop (ef_14_21 m a1) k
  obtain ⟨_, _, ⟨T2, L2, k2, n2⟩, -, X2, ⟨Lc2, hQ2, l2, y2, z2⟩, st2⟩ := Jvm.LawKit.callS X0 hx (y := mn15) hown (mvT hZ (wd82 hw)) (mvT hZ (wd83 hw)) (mvT hZ (wd22 hw)) (mvT hZ (wd84 hw)) (by decide) (backOf (W := 0) (rm15_0 l Z a0 hw []  h0 n0 OL0 ) hZ (wd84 hw) (wd22 hw) (by decide) (by decide)) (g := (mkF m 1 #[rv a1, iv (0 : Int32), iv (2 : Int32), .unset, .unset] [(.int (2 : Int32))])) rfl (by rw [hml]; rfl) (argsL := [(.int (2 : Int32))]) (rest := []) (lenOf pd_16 rfl) rfl (by show 2 * 0 + _ ≤ _; exact Nat.le_of_eq rfl) (hb hby d14_1) (fun _ _ => ⟨rfl, e0, (by decide : 0 + 1 ≤ _), (by decide : 0 + 4 ≤ _)⟩)
  dsimp only [Pt.U, Pt.locs, Pt.cells, Pt.slots] at X2 l2 y2 z2 st2 hQ2
  subst l2 y2 z2
  obtain ⟨b2_0, kx2_0, rfl, Nq2, K2, u2_0, u2_1⟩ := hQ2
  have KK2 : Keep h0 T2.heap [] := (Keep.refl h0 []).trans K2 all0
  have OL2 := OL0.keep K2 all0
  have g_b2_0 : n0 ≤ b2_0 := Nat.le_trans (Nat.le_trans (Nat.le_of_eq OL0.1.symm) OL0.2.1) u2_0
  have sz_b2_0 : h0.size ≤ b2_0 := Nat.le_trans (Keep.refl h0 []).1 u2_0
  have N2 := Fr.app N0 Nq2
  have fc6 := (pr1.keep K2 nin0)
  obtain ⟨cl7, Ar7, -, S7, -, Hs7, -⟩ := id fc6
  have hin7 : ¬ ((0 : Int32) < 0 ∨ cl7.slots.size ≤ ((0 : Int32)).toNatClampNeg) := inb_of S7 ⟨by decide, by decide⟩
  have hat7 : cl7.slots[((0 : Int32)).toNatClampNeg]? = some (.int p3) := Hs7.at hin7 rfl
  obtain ⟨_, _, ⟨T8, L8, k8, n8⟩, -, X8, ⟨Lc8, hQ8, l8, y8, z8⟩, st8⟩ := Jvm.LawKit.callS X2 hx (y := mn17) hown (mvT hZ (wd89 hw)) (mvT hZ (wd90 hw)) (mvT hZ (wd22 hw)) (mvT hZ (wd91 hw)) (by decide) (backOf (W := 0) (rm17_1 l Z a0 hw [] b2_0 p3 kx2_0 T2.heap n0 OL2 pr2 pr3 u2_1 g_b2_0 pr4) hZ (wd91 hw) (wd22 hw) (by decide) (by decide)) (g := (mkF m 20 #[rv a1, iv (0 : Int32), iv (2 : Int32), rv b2_0, iv (0 : Int32)] [(.int p3), (.int (0 : Int32)), (.ref b2_0)])) rfl (by rw [hml]; rfl) (argsL := [(.ref b2_0), (.int (0 : Int32)), (.int p3)]) (rest := []) (lenOf pd_10 rfl) rfl (by show 2 * 0 + _ ≤ _; exact Nat.le_of_eq rfl) (hb hby d14_20) (fun _ _ => ⟨rfl, rfl, (by decide : 1 + 0 ≤ _), (by decide : 4 + 0 ≤ _)⟩)
  dsimp only [Pt.U, Pt.locs, Pt.cells, Pt.slots] at X8 l8 y8 z8 st8 hQ8
  subst l8 y8 z8
  obtain ⟨rfl, Nq8, K8, u8_0⟩ := hQ8
  have KK8 : Keep h0 T8.heap [] := KK2.trans K8 (allS (Or.inr sz_b2_0) all0)
  have OL8 := OL2.keep K8 (allS g_b2_0 all0)
  have N8 := Fr.app N2 Nq8
  have fc9 := (fc6.keep K8 (ninS (Nat.ne_of_lt (Nat.lt_of_lt_of_le pr1.lt sz_b2_0)) nin0))
  obtain ⟨cl10, Ar10, -, S10, -, Hs10, -⟩ := id fc9
  have hin10 : ¬ ((1 : Int32) < 0 ∨ cl10.slots.size ≤ ((1 : Int32)).toNatClampNeg) := inb_of S10 ⟨by decide, by decide⟩
  have hat10 : cl10.slots[((1 : Int32)).toNatClampNeg]? = some (.int p4) := Hs10.at hin10 rfl
  obtain ⟨_, _, ⟨T11, L11, k11, n11⟩, -, X11, ⟨Lc11, hQ11, l11, y11, z11⟩, st11⟩ := Jvm.LawKit.callS X8 hx (y := mn17) hown (mvT hZ (wd89 hw)) (mvT hZ (wd90 hw)) (mvT hZ (wd22 hw)) (mvT hZ (wd91 hw)) (by decide) (backOf (W := 0) (rm17_2 l Z a0 hw [] b2_0 p4 (((p3 >>> ((0 : Int32) &&& 31)).toInt8.toInt32).toInt8.toInt32) (((p3 >>> ((8 : Int32) &&& 31)).toInt8.toInt32).toInt8.toInt32) kx2_0 T8.heap n0 OL8 pr2 pr3 u8_0 g_b2_0 pr4) hZ (wd91 hw) (wd22 hw) (by decide) (by decide)) (g := (mkF m 20 #[rv a1, iv (1 : Int32), iv (2 : Int32), rv b2_0, iv (1 : Int32)] [(.int p4), (.int (1 : Int32)), (.ref b2_0)])) rfl (by rw [hml]; rfl) (argsL := [(.ref b2_0), (.int (1 : Int32)), (.int p4)]) (rest := []) (lenOf pd_10 rfl) rfl (by show 2 * 0 + _ ≤ _; exact Nat.le_of_eq rfl) (hb hby d14_20) (fun _ _ => ⟨rfl, rfl, (by decide : 1 + 0 ≤ _), (by decide : 4 + 0 ≤ _)⟩)
  dsimp only [Pt.U, Pt.locs, Pt.cells, Pt.slots] at X11 l11 y11 z11 st11 hQ11
  subst l11 y11 z11
  obtain ⟨rfl, Nq11, K11, u11_0⟩ := hQ11
  have KK11 : Keep h0 T11.heap [] := KK8.trans K11 (allS (Or.inr sz_b2_0) all0)
  have OL11 := OL8.keep K11 (allS g_b2_0 all0)
  have N11 := Fr.app N8 Nq11
  obtain ⟨fs, hr, hrun, hended, hW, hsame⟩ := X11.leave (v := some (.ref b2_0)) (fun h => by rw [Bd.returns] at h; cases h)
  refine ⟨_, _, pre0 _ ?_, hrun, hended, _, _, rfl, ?_, ⟨_, rfl⟩, hW, hsame.mono (by decide) (by decide)⟩
  · show SS p e below s₁ m 0 #[rv a1, iv (0 : Int32), iv (2 : Int32), .unset, .unset] [] _
    refine XS.iloadN X0.here hx rfl (hb hby d14_0) rfl ?_
    show SS p e below s₁ m 1 #[rv a1, iv (0 : Int32), iv (2 : Int32), .unset, .unset] [(.int (2 : Int32))] _
    refine st2 _ ?_
    show SS p e below T2 m 4 #[rv a1, iv (0 : Int32), iv (2 : Int32), .unset, .unset] [(.ref b2_0)] _
    refine XS.astoreN X2.here hx rfl (hb hby d14_4) rfl rfl (l' := #[rv a1, iv (0 : Int32), iv (2 : Int32), rv b2_0, .unset]) rfl ?_
    refine XS.iconst X2.here hx rfl (hb hby d14_5) ?_
    refine XS.istore X2.here hx rfl (hb hby d14_6) rfl (l' := #[rv a1, iv (0 : Int32), iv (2 : Int32), rv b2_0, iv (0 : Int32)]) rfl ?_
    refine XS.iload X2.here hx rfl (hb hby d14_8) rfl ?_
    show SS p e below T2 m 10 #[rv a1, iv (0 : Int32), iv (2 : Int32), rv b2_0, iv (0 : Int32)] [(.int (0 : Int32))] _
    refine XS.iloadN X2.here hx rfl (hb hby d14_10) rfl ?_
    show SS p e below T2 m 11 #[rv a1, iv (0 : Int32), iv (2 : Int32), rv b2_0, iv (0 : Int32)] [(.int (2 : Int32)), (.int (0 : Int32))] _
    refine XS.icmpNo X2.here hx rfl (hb hby d14_11) rfl (tlt (by decide : (0 : Int32) < (2 : Int32))).2.1 ?_
    show SS p e below T2 m 14 #[rv a1, iv (0 : Int32), iv (2 : Int32), rv b2_0, iv (0 : Int32)] [] _
    refine XS.aloadN X2.here hx rfl (hb hby d14_14) rfl rfl ?_
    refine XS.iload X2.here hx rfl (hb hby d14_15) rfl ?_
    refine XS.aloadN X2.here hx rfl (hb hby d14_17) rfl rfl ?_
    refine XS.iloadN X2.here hx rfl (hb hby d14_18) rfl ?_
    show SS p e below T2 m 19 #[rv a1, iv (0 : Int32), iv (2 : Int32), rv b2_0, iv (0 : Int32)] [(.int (0 : Int32)), (.ref a1), (.int (0 : Int32)), (.ref b2_0)] _
    refine X2.caload hx (j := (0 : Int32)) (v := (.int p3)) Ar7.1 (State.isArrayOf_alike hZ.alike Ar7.2.1) Ar7.2.2 hin7 hat7 (g := (mkF m 19 #[rv a1, iv (0 : Int32), iv (2 : Int32), rv b2_0, iv (0 : Int32)] [(.int (0 : Int32)), (.ref a1), (.int (0 : Int32)), (.ref b2_0)])) rfl rfl (hb hby d14_19) _ ?_
    show SS p e below T2 m 20 #[rv a1, iv (0 : Int32), iv (2 : Int32), rv b2_0, iv (0 : Int32)] [(.int p3), (.int (0 : Int32)), (.ref b2_0)] _
    refine st8 _ ?_
    show SS p e below T8 m 23 #[rv a1, iv (0 : Int32), iv (2 : Int32), rv b2_0, iv (0 : Int32)] [] _
    refine XS.iinc X8.here hx rfl (hb hby d14_23) rfl (l' := #[rv a1, .val (.int ((0 : Int32) + (1 : Int32))), iv (2 : Int32), rv b2_0, iv (0 : Int32)]) rfl ?_
    show SS p e below T8 m 26 #[rv a1, iv (1 : Int32), iv (2 : Int32), rv b2_0, iv (0 : Int32)] [] _
    refine XS.iinc X8.here hx rfl (hb hby d14_26) rfl (l' := #[rv a1, iv (1 : Int32), iv (2 : Int32), rv b2_0, .val (.int ((0 : Int32) + (1 : Int32)))]) rfl ?_
    show SS p e below T8 m 29 #[rv a1, iv (1 : Int32), iv (2 : Int32), rv b2_0, iv (1 : Int32)] [] _
    refine XS.goto X8.here hx rfl (pc0 := 29) (pc' := 8) rfl (hb hby d14_29) (by decide) (by decide) ?_
    refine XS.iload X8.here hx rfl (hb hby d14_8) rfl ?_
    refine XS.iloadN X8.here hx rfl (hb hby d14_10) rfl ?_
    show SS p e below T8 m 11 #[rv a1, iv (1 : Int32), iv (2 : Int32), rv b2_0, iv (1 : Int32)] [(.int (2 : Int32)), (.int (1 : Int32))] _
    refine XS.icmpNo X8.here hx rfl (hb hby d14_11) rfl (tlt (by decide : (1 : Int32) < (2 : Int32))).2.1 ?_
    show SS p e below T8 m 14 #[rv a1, iv (1 : Int32), iv (2 : Int32), rv b2_0, iv (1 : Int32)] [] _
    refine XS.aloadN X8.here hx rfl (hb hby d14_14) rfl rfl ?_
    refine XS.iload X8.here hx rfl (hb hby d14_15) rfl ?_
    refine XS.aloadN X8.here hx rfl (hb hby d14_17) rfl rfl ?_
    refine XS.iloadN X8.here hx rfl (hb hby d14_18) rfl ?_
    show SS p e below T8 m 19 #[rv a1, iv (1 : Int32), iv (2 : Int32), rv b2_0, iv (1 : Int32)] [(.int (1 : Int32)), (.ref a1), (.int (1 : Int32)), (.ref b2_0)] _
    refine X8.caload hx (j := (1 : Int32)) (v := (.int p4)) Ar10.1 (State.isArrayOf_alike hZ.alike Ar10.2.1) Ar10.2.2 hin10 hat10 (g := (mkF m 19 #[rv a1, iv (1 : Int32), iv (2 : Int32), rv b2_0, iv (1 : Int32)] [(.int (1 : Int32)), (.ref a1), (.int (1 : Int32)), (.ref b2_0)])) rfl rfl (hb hby d14_19) _ ?_
    show SS p e below T8 m 20 #[rv a1, iv (1 : Int32), iv (2 : Int32), rv b2_0, iv (1 : Int32)] [(.int p4), (.int (1 : Int32)), (.ref b2_0)] _
    refine st11 _ ?_
    show SS p e below T11 m 23 #[rv a1, iv (1 : Int32), iv (2 : Int32), rv b2_0, iv (1 : Int32)] [] _
    refine XS.iinc X11.here hx rfl (hb hby d14_23) rfl (l' := #[rv a1, .val (.int ((1 : Int32) + (1 : Int32))), iv (2 : Int32), rv b2_0, iv (1 : Int32)]) rfl ?_
    show SS p e below T11 m 26 #[rv a1, iv (2 : Int32), iv (2 : Int32), rv b2_0, iv (1 : Int32)] [] _
    refine XS.iinc X11.here hx rfl (hb hby d14_26) rfl (l' := #[rv a1, iv (2 : Int32), iv (2 : Int32), rv b2_0, .val (.int ((1 : Int32) + (1 : Int32)))]) rfl ?_
    show SS p e below T11 m 29 #[rv a1, iv (2 : Int32), iv (2 : Int32), rv b2_0, iv (2 : Int32)] [] _
    refine XS.goto X11.here hx rfl (pc0 := 29) (pc' := 8) rfl (hb hby d14_29) (by decide) (by decide) ?_
    refine XS.iload X11.here hx rfl (hb hby d14_8) rfl ?_
    refine XS.iloadN X11.here hx rfl (hb hby d14_10) rfl ?_
    show SS p e below T11 m 11 #[rv a1, iv (2 : Int32), iv (2 : Int32), rv b2_0, iv (2 : Int32)] [(.int (2 : Int32)), (.int (2 : Int32))] _
    refine XS.icmpYes X11.here hx rfl (pc0 := 11) (pc' := 32) rfl (hb hby d14_11) rfl (flt (by decide : ¬ ((2 : Int32) < (2 : Int32)))).2.1 (by decide) (by decide) ?_
    show SS p e below T11 m 32 #[rv a1, iv (2 : Int32), iv (2 : Int32), rv b2_0, iv (2 : Int32)] [] _
    refine XS.aloadN X11.here hx rfl (hb hby d14_32) rfl rfl ?_
    show SS p e below T11 m 33 #[rv a1, iv (2 : Int32), iv (2 : Int32), rv b2_0, iv (2 : Int32)] [(.ref b2_0)] _
    jvm_step X11.here [X11.here.top, hx, (hb hby d14_33), X11.method', Bd.returns, Value.isRef, FieldType.isReference]
    first | (intro acts; rw [hr _ acts rfl rfl rfl]) | rw [hr _ _ rfl rfl rfl]
    exact Steps.refl _
  · show Q_rm14_0 Z a1 p3 p4 k5 h0 n0 _ T11.heap _
    exact ⟨b2_0, kx2_0, rfl, N11, KK11, sz_b2_0, u11_0⟩
theorem pd_17 : parseMethodDescriptor "([CII)[B" = some ⟨[(.array .char), .int, .int], some (.array .byte)⟩ := by decide +kernel
theorem d5_26 : decode jdk_52_method_16_code 26 = .ok (.astore 5, 2) := by decide +kernel
theorem d5_28 : decode jdk_52_method_16_code 28 = .ok (.aload 5, 2) := by decide +kernel
theorem d5_30 : decode jdk_52_method_16_code 30 = .ok (.iload 4, 2) := by decide +kernel
theorem d5_32 : decode jdk_52_method_16_code 32 = .ok (.invokestatic 71, 3) := by decide +kernel
theorem d18_0 : decode jdk_52_method_5_code 0 = .ok (.getstatic 44, 3) := by decide +kernel
theorem d18_3 : decode jdk_52_method_5_code 3 = .ok (.ifCond .ne 25, 3) := by decide +kernel
theorem d18_28 : decode jdk_52_method_5_code 28 = .ok (.iload_n 1, 1) := by decide +kernel
theorem d18_29 : decode jdk_52_method_5_code 29 = .ok (.iconst 1, 1) := by decide +kernel
theorem d18_30 : decode jdk_52_method_5_code 30 = .ok (.ishl, 1) := by decide +kernel
theorem d18_31 : decode jdk_52_method_5_code 31 = .ok (.istore_n 1, 1) := by decide +kernel
theorem d18_32 : decode jdk_52_method_5_code 32 = .ok (.aload_n 0, 1) := by decide +kernel
theorem d18_33 : decode jdk_52_method_5_code 33 = .ok (.iload_n 1, 1) := by decide +kernel
theorem d18_34 : decode jdk_52_method_5_code 34 = .ok (.iinc 1 1, 3) := by decide +kernel
theorem d18_37 : decode jdk_52_method_5_code 37 = .ok (.baload, 1) := by decide +kernel
theorem d18_38 : decode jdk_52_method_5_code 38 = .ok (.sipush 255, 3) := by decide +kernel
theorem d18_41 : decode jdk_52_method_5_code 41 = .ok (.iand, 1) := by decide +kernel
theorem d18_42 : decode jdk_52_method_5_code 42 = .ok (.getstatic 59, 3) := by decide +kernel
theorem d18_45 : decode jdk_52_method_5_code 45 = .ok (.ishl, 1) := by decide +kernel
theorem d18_46 : decode jdk_52_method_5_code 46 = .ok (.aload_n 0, 1) := by decide +kernel
theorem d18_47 : decode jdk_52_method_5_code 47 = .ok (.iload_n 1, 1) := by decide +kernel
theorem d18_48 : decode jdk_52_method_5_code 48 = .ok (.baload, 1) := by decide +kernel
theorem d18_49 : decode jdk_52_method_5_code 49 = .ok (.sipush 255, 3) := by decide +kernel
theorem d18_52 : decode jdk_52_method_5_code 52 = .ok (.iand, 1) := by decide +kernel
theorem d18_53 : decode jdk_52_method_5_code 53 = .ok (.getstatic 63, 3) := by decide +kernel
theorem d18_56 : decode jdk_52_method_5_code 56 = .ok (.ishl, 1) := by decide +kernel
theorem d18_57 : decode jdk_52_method_5_code 57 = .ok (.ior, 1) := by decide +kernel
theorem d18_58 : decode jdk_52_method_5_code 58 = .ok (.i2c, 1) := by decide +kernel
theorem d18_59 : decode jdk_52_method_5_code 59 = .ok (.ireturn, 1) := by decide +kernel
theorem ef_18_22 (m : MethodId) (x0 : Addr) : entryFrame m #[(.ref x0), (.int (0 : Int32))] 2 = mkF m 0 #[.val (.ref x0), .val (.int (0 : Int32))] [] := by first | (simp [entryFrame, mkF, argsToLocals, Value.category]; done) | rfl
def Q_rm18_0 (Z : State) (a1 : Addr) (p3 : Int32) (p4 : Int32) (p5 : Int32) (p6 : Int32) (k7 : ClassId) (h0 : Heap) (n0 : Nat) (v : Option Value) (h : Heap) (L : List Loc) : Prop := v = some (.int (nar .char ((((p3 &&& (255 : Int32)) <<< ((0 : Int32) &&& 31)) ||| ((p4 &&& (255 : Int32)) <<< ((8 : Int32) &&& 31))).toUInt32.toUInt16.toUInt32.toInt32))) ∧ Fr n0 L ∧ h = h0
set_option maxRecDepth 65536 in
set_option maxHeartbeats 40000000 in
theorem rm18_0 (l : Launch) (Z : State) (a0 : Array Value) (hw : ∀ d ∈ tables_1, d.before a0 Z = true) (ws : List Jvm.Cond) (a1 : Addr) (p3 : Int32) (p4 : Int32) (p5 : Int32) (p6 : Int32) (k7 : ClassId) (h0 : Heap) (n0 : Nat) (OL0 : Old Z n0 h0) (pr1 : Sta Z Z.heap "java/lang/StringUTF16" "$assertionsDisabled" "Z" (.int (1 : Int32))) (pr2 : Arv Z h0 a1 k7 .byte (4 : Int32) [(.int p3), (.int p4), (.int p5), (.int p6)] (.int (0 : Int32))) (pr3 : Sta Z Z.heap "java/lang/StringUTF16" "HI_BYTE_SHIFT" "I" (.int (0 : Int32))) (pr4 : Sta Z Z.heap "java/lang/StringUTF16" "LO_BYTE_SHIFT" "I" (.int (8 : Int32))) :
    MetFree l mn18 (head1 (Jvm.Cond.code mn18 jdk_52_method_5_code 2 (some .char) :: ws) ({ frames := 0, cells := 0, slots := 0, locals := 0 } : Room)) (fun a U => a = #[(.ref a1), (.int (0 : Int32))] ∧ Z.Warmed39 U.vm ∧ U.heap = h0) (fun _ _ _ _ _ => True) (fun _ U o U' => ∃ v L, o = .returned v ∧ Q_rm18_0 Z a1 p3 p4 p5 p6 k7 h0 n0 v U'.heap L ∧ FrameEnd U o U' L ({ frames := 0, cells := 0, slots := 0, locals := 0 } : Room).cells ({ frames := 0, cells := 0, slots := 0, locals := 0 } : Room).slots) := by
  refine MetFree.of_bodySF (plainFor_of_name pn_6) hisR ?_
  intro p e s m args below meth c s₁ Bd hml0 hP hK
  obtain ⟨rfl, hZ, hh⟩ := hP
  have hx := Bd.exec
  have hby := Bd.bytes
  have hml : c.maxLocals = 2 := hml0
  have hown : s.vm.findClass "java/lang/StringUTF16" = some m.cls := findClass_of_methodNamed Bd.named
  have hnm := (name_of_methodNamed Bd.named Bd.method).1
  have X0 : Stand p l e ({ frames := 0, cells := 0, slots := 0, locals := 0 } : Room) s m #[(.ref a1), (.int (0 : Int32))] below meth c s₁ [] 0 0 := Stand.of_body Bd
  have e0 : s₁.heap = h0 := by rw [← hh, Bd.state]; rfl
  have N0 := Fr.nil n0
  have pre0 : ∀ t, SS p e below s₁ m 0 #[rv a1, iv (0 : Int32)] [] t → Steps p.tables e below (s₁.setTop (entryFrame m #[(.ref a1), (.int (0 : Int32))] 2)) t := fun t k => castTop (ef_18_22 m a1) k
  obtain ⟨T2, X2, e2, st2⟩ := getS2 X0 hx hZ hown (host := "") (Or.inl (wd92 hw)) Via.refl e0 (pr1.ext OL0.2) (g := (mkF m 0 #[rv a1, iv (0 : Int32)] [])) rfl (hb hby d18_0)
  obtain ⟨cl8, Ar8, -, S8, -, Hs8, -⟩ := id pr2
  have hin8 : ¬ ((0 : Int32) < 0 ∨ cl8.slots.size ≤ ((0 : Int32)).toNatClampNeg) := inb_of S8 ⟨by decide, by decide⟩
  have hat8 : cl8.slots[((0 : Int32)).toNatClampNeg]? = some (.int p3) := Hs8.at hin8 rfl
  obtain ⟨T9, X9, e9, st9⟩ := getS2 X2 hx hZ hown (host := "") (Or.inl (wd93 hw)) Via.refl e2 (pr3.ext OL0.2) (g := (mkF m 42 #[rv a1, iv (1 : Int32)] [(.int (p3 &&& (255 : Int32)))])) rfl (hb hby d18_42)
  obtain ⟨cl10, Ar10, -, S10, -, Hs10, -⟩ := id pr2
  have hin10 : ¬ ((1 : Int32) < 0 ∨ cl10.slots.size ≤ ((1 : Int32)).toNatClampNeg) := inb_of S10 ⟨by decide, by decide⟩
  have hat10 : cl10.slots[((1 : Int32)).toNatClampNeg]? = some (.int p4) := Hs10.at hin10 rfl
  obtain ⟨T11, X11, e11, st11⟩ := getS2 X9 hx hZ hown (host := "") (Or.inl (wd94 hw)) Via.refl e9 (pr4.ext OL0.2) (g := (mkF m 53 #[rv a1, iv (1 : Int32)] [(.int (p4 &&& (255 : Int32))), (.int ((p3 &&& (255 : Int32)) <<< ((0 : Int32) &&& 31)))])) rfl (hb hby d18_53)
  obtain ⟨fs, hr, hrun, hended, hW, hsame⟩ := X11.leave (v := some (.int (nar .char ((((p3 &&& (255 : Int32)) <<< ((0 : Int32) &&& 31)) ||| ((p4 &&& (255 : Int32)) <<< ((8 : Int32) &&& 31))).toUInt32.toUInt16.toUInt32.toInt32)))) (fun h => by rw [Bd.returns] at h; cases h)
  refine ⟨_, _, pre0 _ ?_, hrun, hended, _, _, rfl, ?_, ⟨_, rfl⟩, hW, hsame.mono (by decide) (by decide)⟩
  · show SS p e below s₁ m 0 #[rv a1, iv (0 : Int32)] [] _
    refine st2 _ ?_
    show SS p e below T2 m 3 #[rv a1, iv (0 : Int32)] [(.int (1 : Int32))] _
    refine XS.ifYes X2.here hx rfl (pc0 := 3) (pc' := 28) rfl (hb hby d18_3) rfl ((if0 _ _).trans (feq (by decide : ¬ ((1 : Int32) = (0 : Int32)))).2) (by decide) (by decide) ?_
    show SS p e below T2 m 28 #[rv a1, iv (0 : Int32)] [] _
    refine XS.iloadN X2.here hx rfl (hb hby d18_28) rfl ?_
    refine XS.iconst X2.here hx rfl (hb hby d18_29) ?_
    show SS p e below T2 m 30 #[rv a1, iv (0 : Int32)] [(.int (1 : Int32)), (.int (0 : Int32))] _
    refine XS.ishl X2.here hx rfl (hb hby d18_30) rfl ?_
    show SS p e below T2 m 31 #[rv a1, iv (0 : Int32)] [(.int (0 : Int32))] _
    refine XS.istoreN X2.here hx rfl (hb hby d18_31) rfl (l' := #[rv a1, iv (0 : Int32)]) rfl ?_
    refine XS.aloadN X2.here hx rfl (hb hby d18_32) rfl rfl ?_
    refine XS.iloadN X2.here hx rfl (hb hby d18_33) rfl ?_
    show SS p e below T2 m 34 #[rv a1, iv (0 : Int32)] [(.int (0 : Int32)), (.ref a1)] _
    refine XS.iinc X2.here hx rfl (hb hby d18_34) rfl (l' := #[rv a1, .val (.int ((0 : Int32) + (1 : Int32)))]) rfl ?_
    show SS p e below T2 m 37 #[rv a1, iv (1 : Int32)] [(.int (0 : Int32)), (.ref a1)] _
    refine X2.baloadBytes hx (j := (0 : Int32)) (v := (.int p3)) (by rw [e2]; exact Ar8.1) (State.isArrayOf_alike hZ.alike Ar8.2.1) Ar8.2.2 hin8 hat8 (g := (mkF m 37 #[rv a1, iv (1 : Int32)] [(.int (0 : Int32)), (.ref a1)])) rfl rfl (hb hby d18_37) _ ?_
    show SS p e below T2 m 38 #[rv a1, iv (1 : Int32)] [(.int p3)] _
    refine XS.sipush X2.here hx rfl (hb hby d18_38) ?_
    show SS p e below T2 m 41 #[rv a1, iv (1 : Int32)] [(.int (255 : Int32)), (.int p3)] _
    refine XS.iand X2.here hx rfl (hb hby d18_41) rfl ?_
    show SS p e below T2 m 42 #[rv a1, iv (1 : Int32)] [(.int (p3 &&& (255 : Int32)))] _
    refine st9 _ ?_
    show SS p e below T9 m 45 #[rv a1, iv (1 : Int32)] [(.int (0 : Int32)), (.int (p3 &&& (255 : Int32)))] _
    refine XS.ishl X9.here hx rfl (hb hby d18_45) rfl ?_
    show SS p e below T9 m 46 #[rv a1, iv (1 : Int32)] [(.int ((p3 &&& (255 : Int32)) <<< ((0 : Int32) &&& 31)))] _
    refine XS.aloadN X9.here hx rfl (hb hby d18_46) rfl rfl ?_
    refine XS.iloadN X9.here hx rfl (hb hby d18_47) rfl ?_
    show SS p e below T9 m 48 #[rv a1, iv (1 : Int32)] [(.int (1 : Int32)), (.ref a1), (.int ((p3 &&& (255 : Int32)) <<< ((0 : Int32) &&& 31)))] _
    refine X9.baloadBytes hx (j := (1 : Int32)) (v := (.int p4)) (by rw [e9]; exact Ar10.1) (State.isArrayOf_alike hZ.alike Ar10.2.1) Ar10.2.2 hin10 hat10 (g := (mkF m 48 #[rv a1, iv (1 : Int32)] [(.int (1 : Int32)), (.ref a1), (.int ((p3 &&& (255 : Int32)) <<< ((0 : Int32) &&& 31)))])) rfl rfl (hb hby d18_48) _ ?_
    show SS p e below T9 m 49 #[rv a1, iv (1 : Int32)] [(.int p4), (.int ((p3 &&& (255 : Int32)) <<< ((0 : Int32) &&& 31)))] _
    refine XS.sipush X9.here hx rfl (hb hby d18_49) ?_
    show SS p e below T9 m 52 #[rv a1, iv (1 : Int32)] [(.int (255 : Int32)), (.int p4), (.int ((p3 &&& (255 : Int32)) <<< ((0 : Int32) &&& 31)))] _
    refine XS.iand X9.here hx rfl (hb hby d18_52) rfl ?_
    show SS p e below T9 m 53 #[rv a1, iv (1 : Int32)] [(.int (p4 &&& (255 : Int32))), (.int ((p3 &&& (255 : Int32)) <<< ((0 : Int32) &&& 31)))] _
    refine st11 _ ?_
    show SS p e below T11 m 56 #[rv a1, iv (1 : Int32)] [(.int (8 : Int32)), (.int (p4 &&& (255 : Int32))), (.int ((p3 &&& (255 : Int32)) <<< ((0 : Int32) &&& 31)))] _
    refine XS.ishl X11.here hx rfl (hb hby d18_56) rfl ?_
    show SS p e below T11 m 57 #[rv a1, iv (1 : Int32)] [(.int ((p4 &&& (255 : Int32)) <<< ((8 : Int32) &&& 31))), (.int ((p3 &&& (255 : Int32)) <<< ((0 : Int32) &&& 31)))] _
    refine XS.ior X11.here hx rfl (hb hby d18_57) rfl ?_
    show SS p e below T11 m 58 #[rv a1, iv (1 : Int32)] [(.int (((p3 &&& (255 : Int32)) <<< ((0 : Int32) &&& 31)) ||| ((p4 &&& (255 : Int32)) <<< ((8 : Int32) &&& 31))))] _
    refine XS.i2c X11.here hx rfl (hb hby d18_58) rfl ?_
    show SS p e below T11 m 59 #[rv a1, iv (1 : Int32)] [(.int ((((p3 &&& (255 : Int32)) <<< ((0 : Int32) &&& 31)) ||| ((p4 &&& (255 : Int32)) <<< ((8 : Int32) &&& 31))).toUInt32.toUInt16.toUInt32.toInt32))] _
    exact retN X11 hx (t := .char) Bd.returns (by simp) (hb hby d18_59) hr
  · show Q_rm18_0 Z a1 p3 p4 p5 p6 k7 h0 n0 _ T11.heap _
    rw [e11]
    exact ⟨rfl, N0, rfl⟩
theorem pd_18 : parseMethodDescriptor "([BI)C" = some ⟨[(.array .byte), .int], some .char⟩ := by decide +kernel
theorem d5_35 : decode jdk_52_method_16_code 35 = .ok (.sipush 255, 3) := by decide +kernel
theorem d5_38 : decode jdk_52_method_16_code 38 = .ok (.if_icmp .gt 16, 3) := by decide +kernel
theorem d5_54 : decode jdk_52_method_16_code 54 = .ok (.aload 5, 2) := by decide +kernel
theorem d5_56 : decode jdk_52_method_16_code 56 = .ok (.areturn, 1) := by decide +kernel
theorem ef_5_23 (m : MethodId) (x0 : Addr) : entryFrame m #[(.ref x0), (.int (0 : Int32)), (.int (2 : Int32))] 6 = mkF m 0 #[.val (.ref x0), .val (.int (0 : Int32)), .val (.int (2 : Int32)), .unset, .unset, .unset] [] := by first | (simp [entryFrame, mkF, argsToLocals, Value.category]; done) | rfl
def Q_rm5_0 (Z : State) (a1 : Addr) (p3 : Int32) (p4 : Int32) (k5 : ClassId) (h0 : Heap) (n0 : Nat) (v : Option Value) (h : Heap) (L : List Loc) : Prop := ∃ b8_0 : Addr, ∃ kx8_0 : ClassId, v = some (.ref b8_0) ∧ Fr n0 L ∧ Keep h0 h [] ∧ h0.size ≤ b8_0 ∧ Arv Z h b8_0 kx8_0 .byte (4 : Int32) [(.int (((p3 >>> ((0 : Int32) &&& 31)).toInt8.toInt32).toInt8.toInt32)), (.int (((p3 >>> ((8 : Int32) &&& 31)).toInt8.toInt32).toInt8.toInt32)), (.int (((p4 >>> ((0 : Int32) &&& 31)).toInt8.toInt32).toInt8.toInt32)), (.int (((p4 >>> ((8 : Int32) &&& 31)).toInt8.toInt32).toInt8.toInt32))] (.int (0 : Int32))
set_option maxRecDepth 65536 in
set_option maxHeartbeats 40000000 in
theorem rm5_0 (l : Launch) (Z : State) (a0 : Array Value) (hw : ∀ d ∈ tables_1, d.before a0 Z = true) (ws : List Jvm.Cond) (a1 : Addr) (p3 : Int32) (p4 : Int32) (k5 : ClassId) (h0 : Heap) (n0 : Nat) (OL0 : Old Z n0 h0) (pr1 : Arv Z h0 a1 k5 .char (2 : Int32) [(.int p3), (.int p4)] (.int (0 : Int32))) (pr2 : (255 : Int32) < p3) (pr3 : Sta Z Z.heap "java/lang/StringUTF16" "$assertionsDisabled" "Z" (.int (1 : Int32))) (pr4 : Sta Z Z.heap "java/lang/StringUTF16" "HI_BYTE_SHIFT" "I" (.int (0 : Int32))) (pr5 : Sta Z Z.heap "java/lang/StringUTF16" "LO_BYTE_SHIFT" "I" (.int (8 : Int32))) (pr6 : (255 : Int32) < (nar .char (((((((p3 >>> ((0 : Int32) &&& 31)).toInt8.toInt32).toInt8.toInt32) &&& (255 : Int32)) <<< ((0 : Int32) &&& 31)) ||| (((((p3 >>> ((8 : Int32) &&& 31)).toInt8.toInt32).toInt8.toInt32) &&& (255 : Int32)) <<< ((8 : Int32) &&& 31))).toUInt32.toUInt16.toUInt32.toInt32))) :
    MetFree l mn5 (head1 (Jvm.Cond.code mn5 jdk_52_method_16_code 6 (some (.array .byte)) :: ws) ({ frames := 3, cells := 2, slots := 6, locals := 40 } : Room)) (fun a U => a = #[(.ref a1), (.int (0 : Int32)), (.int (2 : Int32))] ∧ Z.Warmed39 U.vm ∧ U.heap = h0) (fun _ _ _ _ _ => True) (fun _ U o U' => ∃ v L, o = .returned v ∧ Q_rm5_0 Z a1 p3 p4 k5 h0 n0 v U'.heap L ∧ FrameEnd U o U' L ({ frames := 3, cells := 2, slots := 6, locals := 40 } : Room).cells ({ frames := 3, cells := 2, slots := 6, locals := 40 } : Room).slots) := by
  refine MetFree.of_bodySF (plainFor_of_name pn_6) hisR ?_
  intro p e s m args below meth c s₁ Bd hml0 hP hK
  obtain ⟨rfl, hZ, hh⟩ := hP
  have hx := Bd.exec
  have hby := Bd.bytes
  have hml : c.maxLocals = 6 := hml0
  have hown : s.vm.findClass "java/lang/StringUTF16" = some m.cls := findClass_of_methodNamed Bd.named
  have hnm := (name_of_methodNamed Bd.named Bd.method).1
  have X0 : Stand p l e ({ frames := 3, cells := 2, slots := 6, locals := 40 } : Room) s m #[(.ref a1), (.int (0 : Int32)), (.int (2 : Int32))] below meth c s₁ [] 0 0 := Stand.of_body Bd
  have e0 : s₁.heap = h0 := by rw [← hh, Bd.state]; rfl
  have N0 := Fr.nil n0
  have pre0 : ∀ t, SS p e below s₁ m 0 #[rv a1, iv (0 : Int32), iv (2 : Int32), .unset, .unset, .unset] [] t → Steps p.tables e below (s₁.setTop (entryFrame m #[(.ref a1), (.int (0 : Int32)), (.int (2 : Int32))] 6)) t := fun t k => castTop (ef_5_23 m a1) k
  obtain ⟨T2, h2, k2, X2, e2, E2, A2, st2⟩ := newP (aty := .byte) X0 hx hZ (wd24 hw) e0 (g := (mkF m 1 #[rv a1, iv (0 : Int32), iv (2 : Int32), .unset, .unset, .unset] [(.int (2 : Int32))])) rfl (hb hby d5_1) rfl (by decide) (cap := 2) (by decide) (by decide) (by decide) (by decide)
  obtain ⟨b2, g2⟩ : ∃ z, z = h0.size := ⟨_, rfl⟩
  rw [← g2] at A2 st2
  have V2 : Arv Z h2 b2 k2 .byte (2 : Int32) [(.int (0 : Int32)), (.int (0 : Int32))] (.int (0 : Int32)) := (Arv.new A2 (by decide)).pad (pad_rep [] (.int (0 : Int32)) 2)
  have g_b2 : n0 ≤ b2 := (Nat.le_trans (Nat.le_trans (Nat.le_of_eq OL0.1.symm) OL0.2.1) (Nat.le_of_eq g2.symm))
  have sz_b2 : h0.size ≤ b2 := (Nat.le_trans (Keep.refl h0 []).1 (Nat.le_of_eq g2.symm))
  have KK2 : Keep h0 h2 [] := (Keep.refl h0 []).ext E2
  have OL2 := OL0.ext E2
  have fc7 := (pr1.ext E2)
  obtain ⟨_, _, ⟨T6, L6, k6, n6⟩, -, X6, ⟨Lc6, hQ6, l6, y6, z6⟩, st6⟩ := Jvm.LawKit.callS X2 hx (y := mn6) hown (mvT hZ (wd25 hw)) (mvT hZ (wd26 hw)) (mvT hZ (wd22 hw)) (mvT hZ (wd27 hw)) (by decide) (backOf (W := 0) (rm6_0 l Z a0 hw [] a1 b2 p3 p4 k5 h2 n0 OL2 fc7 pr2) hZ (wd27 hw) (wd22 hw) (by decide) (by decide)) (g := (mkF m 9 #[rv a1, iv (0 : Int32), iv (2 : Int32), rv b2, .unset, .unset] [(.int (2 : Int32)), (.int (0 : Int32)), (.ref b2), (.int (0 : Int32)), (.ref a1)])) rfl (by rw [hml]; rfl) (argsL := [(.ref a1), (.int (0 : Int32)), (.ref b2), (.int (0 : Int32)), (.int (2 : Int32))]) (rest := []) (lenOf pd_14 rfl) rfl (by show 2 * 0 + _ ≤ _; exact Nat.le_of_eq rfl) (hb hby d5_9) (fun _ _ => ⟨rfl, e2, (by decide : 1 + 0 ≤ _), (by decide : 2 + 0 ≤ _)⟩)
  dsimp only [Pt.U, Pt.locs, Pt.cells, Pt.slots] at X6 l6 y6 z6 st6 hQ6
  subst l6 y6 z6
  obtain ⟨rfl, Nq6, ec6⟩ := hQ6
  have N6 := Fr.app N0 Nq6
  obtain ⟨_, _, ⟨T8, L8, k8, n8⟩, -, X8, ⟨Lc8, hQ8, l8, y8, z8⟩, st8⟩ := Jvm.LawKit.callS X6 hx (y := mn14) hown (mvT hZ (wd79 hw)) (mvT hZ (wd80 hw)) (mvT hZ (wd22 hw)) (mvT hZ (wd81 hw)) (by decide) (backOf (W := 0) (rm14_0 l Z a0 hw [] a1 p3 p4 k5 h2 n0 OL2 fc7 pr3 pr4 pr5) hZ (wd81 hw) (wd22 hw) (by decide) (by decide)) (g := (mkF m 23 #[rv a1, iv (0 : Int32), iv (2 : Int32), rv b2, iv (0 : Int32), .unset] [(.int (2 : Int32)), (.int (0 : Int32)), (.ref a1)])) rfl (by rw [hml]; rfl) (argsL := [(.ref a1), (.int (0 : Int32)), (.int (2 : Int32))]) (rest := []) (lenOf pd_17 rfl) rfl (by show 2 * 0 + _ ≤ _; exact Nat.le_of_eq rfl) (hb hby d5_23) (fun _ _ => ⟨rfl, ec6, (by decide : 1 + 1 ≤ _), (by decide : 2 + 4 ≤ _)⟩)
  dsimp only [Pt.U, Pt.locs, Pt.cells, Pt.slots] at X8 l8 y8 z8 st8 hQ8
  subst l8 y8 z8
  obtain ⟨b8_0, kx8_0, rfl, Nq8, K8, u8_0, u8_1⟩ := hQ8
  have KK8 : Keep h0 T8.heap [] := KK2.trans K8 all0
  have OL8 := OL2.keep K8 all0
  have g_b8_0 : n0 ≤ b8_0 := Nat.le_trans (Nat.le_trans (Nat.le_of_eq OL2.1.symm) OL2.2.1) u8_0
  have sz_b8_0 : h0.size ≤ b8_0 := Nat.le_trans KK2.1 u8_0
  have N8 := Fr.app N6 Nq8
  obtain ⟨_, _, ⟨T9, L9, k9, n9⟩, -, X9, ⟨Lc9, hQ9, l9, y9, z9⟩, st9⟩ := Jvm.LawKit.callS X8 hx (y := mn18) hown (mvT hZ (wd95 hw)) (mvT hZ (wd96 hw)) (mvT hZ (wd22 hw)) (mvT hZ (wd97 hw)) (by decide) (backOf (W := 0) (rm18_0 l Z a0 hw [] b8_0 (((p3 >>> ((0 : Int32) &&& 31)).toInt8.toInt32).toInt8.toInt32) (((p3 >>> ((8 : Int32) &&& 31)).toInt8.toInt32).toInt8.toInt32) (((p4 >>> ((0 : Int32) &&& 31)).toInt8.toInt32).toInt8.toInt32) (((p4 >>> ((8 : Int32) &&& 31)).toInt8.toInt32).toInt8.toInt32) kx8_0 T8.heap n0 OL8 pr3 u8_1 pr4 pr5) hZ (wd97 hw) (wd22 hw) (by decide) (by decide)) (g := (mkF m 32 #[rv a1, iv (0 : Int32), iv (2 : Int32), rv b2, iv (0 : Int32), rv b8_0] [(.int (0 : Int32)), (.ref b8_0)])) rfl (by rw [hml]; rfl) (argsL := [(.ref b8_0), (.int (0 : Int32))]) (rest := []) (lenOf pd_18 rfl) rfl (by show 2 * 0 + _ ≤ _; exact Nat.le_of_eq rfl) (hb hby d5_32) (fun _ _ => ⟨rfl, rfl, (by decide : 2 + 0 ≤ _), (by decide : 6 + 0 ≤ _)⟩)
  dsimp only [Pt.U, Pt.locs, Pt.cells, Pt.slots] at X9 l9 y9 z9 st9 hQ9
  subst l9 y9 z9
  obtain ⟨rfl, Nq9, ec9⟩ := hQ9
  have N9 := Fr.app N8 Nq9
  obtain ⟨fs, hr, hrun, hended, hW, hsame⟩ := X9.leave (v := some (.ref b8_0)) (fun h => by rw [Bd.returns] at h; cases h)
  refine ⟨_, _, pre0 _ ?_, hrun, hended, _, _, rfl, ?_, ⟨_, rfl⟩, hW, hsame.mono (by decide) (by decide)⟩
  · show SS p e below s₁ m 0 #[rv a1, iv (0 : Int32), iv (2 : Int32), .unset, .unset, .unset] [] _
    refine XS.iloadN X0.here hx rfl (hb hby d5_0) rfl ?_
    show SS p e below s₁ m 1 #[rv a1, iv (0 : Int32), iv (2 : Int32), .unset, .unset, .unset] [(.int (2 : Int32))] _
    refine st2 _ ?_
    show SS p e below T2 m 3 #[rv a1, iv (0 : Int32), iv (2 : Int32), .unset, .unset, .unset] [(.ref b2)] _
    refine XS.astoreN X2.here hx rfl (hb hby d5_3) rfl rfl (l' := #[rv a1, iv (0 : Int32), iv (2 : Int32), rv b2, .unset, .unset]) rfl ?_
    refine XS.aloadN X2.here hx rfl (hb hby d5_4) rfl rfl ?_
    refine XS.iloadN X2.here hx rfl (hb hby d5_5) rfl ?_
    refine XS.aloadN X2.here hx rfl (hb hby d5_6) rfl rfl ?_
    show SS p e below T2 m 7 #[rv a1, iv (0 : Int32), iv (2 : Int32), rv b2, .unset, .unset] [(.ref b2), (.int (0 : Int32)), (.ref a1)] _
    refine XS.iconst X2.here hx rfl (hb hby d5_7) ?_
    refine XS.iloadN X2.here hx rfl (hb hby d5_8) rfl ?_
    show SS p e below T2 m 9 #[rv a1, iv (0 : Int32), iv (2 : Int32), rv b2, .unset, .unset] [(.int (2 : Int32)), (.int (0 : Int32)), (.ref b2), (.int (0 : Int32)), (.ref a1)] _
    refine st6 _ ?_
    show SS p e below T6 m 12 #[rv a1, iv (0 : Int32), iv (2 : Int32), rv b2, .unset, .unset] [(.int (0 : Int32))] _
    refine XS.istore X6.here hx rfl (hb hby d5_12) rfl (l' := #[rv a1, iv (0 : Int32), iv (2 : Int32), rv b2, iv (0 : Int32), .unset]) rfl ?_
    refine XS.iload X6.here hx rfl (hb hby d5_14) rfl ?_
    refine XS.iloadN X6.here hx rfl (hb hby d5_16) rfl ?_
    show SS p e below T6 m 17 #[rv a1, iv (0 : Int32), iv (2 : Int32), rv b2, iv (0 : Int32), .unset] [(.int (2 : Int32)), (.int (0 : Int32))] _
    refine XS.icmpNo X6.here hx rfl (hb hby d5_17) rfl (feq (by decide : ¬ ((0 : Int32) = (2 : Int32)))).1 ?_
    show SS p e below T6 m 20 #[rv a1, iv (0 : Int32), iv (2 : Int32), rv b2, iv (0 : Int32), .unset] [] _
    refine XS.aloadN X6.here hx rfl (hb hby d5_20) rfl rfl ?_
    refine XS.iloadN X6.here hx rfl (hb hby d5_21) rfl ?_
    refine XS.iloadN X6.here hx rfl (hb hby d5_22) rfl ?_
    show SS p e below T6 m 23 #[rv a1, iv (0 : Int32), iv (2 : Int32), rv b2, iv (0 : Int32), .unset] [(.int (2 : Int32)), (.int (0 : Int32)), (.ref a1)] _
    refine st8 _ ?_
    show SS p e below T8 m 26 #[rv a1, iv (0 : Int32), iv (2 : Int32), rv b2, iv (0 : Int32), .unset] [(.ref b8_0)] _
    refine XS.astore X8.here hx rfl (hb hby d5_26) rfl rfl (l' := #[rv a1, iv (0 : Int32), iv (2 : Int32), rv b2, iv (0 : Int32), rv b8_0]) rfl ?_
    refine XS.aload X8.here hx rfl (hb hby d5_28) rfl rfl ?_
    refine XS.iload X8.here hx rfl (hb hby d5_30) rfl ?_
    show SS p e below T8 m 32 #[rv a1, iv (0 : Int32), iv (2 : Int32), rv b2, iv (0 : Int32), rv b8_0] [(.int (0 : Int32)), (.ref b8_0)] _
    refine st9 _ ?_
    show SS p e below T9 m 35 #[rv a1, iv (0 : Int32), iv (2 : Int32), rv b2, iv (0 : Int32), rv b8_0] [(.int (nar .char (((((((p3 >>> ((0 : Int32) &&& 31)).toInt8.toInt32).toInt8.toInt32) &&& (255 : Int32)) <<< ((0 : Int32) &&& 31)) ||| (((((p3 >>> ((8 : Int32) &&& 31)).toInt8.toInt32).toInt8.toInt32) &&& (255 : Int32)) <<< ((8 : Int32) &&& 31))).toUInt32.toUInt16.toUInt32.toInt32)))] _
    refine XS.sipush X9.here hx rfl (hb hby d5_35) ?_
    show SS p e below T9 m 38 #[rv a1, iv (0 : Int32), iv (2 : Int32), rv b2, iv (0 : Int32), rv b8_0] [(.int (255 : Int32)), (.int (nar .char (((((((p3 >>> ((0 : Int32) &&& 31)).toInt8.toInt32).toInt8.toInt32) &&& (255 : Int32)) <<< ((0 : Int32) &&& 31)) ||| (((((p3 >>> ((8 : Int32) &&& 31)).toInt8.toInt32).toInt8.toInt32) &&& (255 : Int32)) <<< ((8 : Int32) &&& 31))).toUInt32.toUInt16.toUInt32.toInt32)))] _
    refine XS.icmpYes X9.here hx rfl (pc0 := 38) (pc' := 54) rfl (hb hby d5_38) rfl (tlt pr6).2.2.1 (by decide) (by decide) ?_
    show SS p e below T9 m 54 #[rv a1, iv (0 : Int32), iv (2 : Int32), rv b2, iv (0 : Int32), rv b8_0] [] _
    refine XS.aload X9.here hx rfl (hb hby d5_54) rfl rfl ?_
    show SS p e below T9 m 56 #[rv a1, iv (0 : Int32), iv (2 : Int32), rv b2, iv (0 : Int32), rv b8_0] [(.ref b8_0)] _
    jvm_step X9.here [X9.here.top, hx, (hb hby d5_56), X9.method', Bd.returns, Value.isRef, FieldType.isReference]
    first | (intro acts; rw [hr _ acts rfl rfl rfl]) | rw [hr _ _ rfl rfl rfl]
    exact Steps.refl _
  · show Q_rm5_0 Z a1 p3 p4 k5 h0 n0 _ T9.heap _
    rw [ec9]
    exact ⟨b8_0, kx8_0, rfl, N9, KK8, sz_b8_0, u8_1⟩
theorem d3_39 : decode jdk_42_method_149_code 39 = .ok (.astore 5, 2) := by decide +kernel
theorem d3_41 : decode jdk_42_method_149_code 41 = .ok (.aload_n 0, 1) := by decide +kernel
theorem d3_42 : decode jdk_42_method_149_code 42 = .ok (.aload 5, 2) := by decide +kernel
theorem d3_44 : decode jdk_42_method_149_code 44 = .ok (.iload_n 3, 1) := by decide +kernel
theorem d3_45 : decode jdk_42_method_149_code 45 = .ok (.invokestatic 47, 3) := by decide +kernel
theorem d7_0 : decode jdk_52_method_15_code 0 = .ok (.iload_n 1, 1) := by decide +kernel
theorem d7_1 : decode jdk_52_method_15_code 1 = .ok (.aload_n 0, 1) := by decide +kernel
theorem d7_2 : decode jdk_52_method_15_code 2 = .ok (.arraylength, 1) := by decide +kernel
theorem d7_3 : decode jdk_52_method_15_code 3 = .ok (.isub, 1) := by decide +kernel
theorem d7_4 : decode jdk_52_method_15_code 4 = .ok (.bipush 31, 2) := by decide +kernel
theorem d7_6 : decode jdk_52_method_15_code 6 = .ok (.iushr, 1) := by decide +kernel
theorem d7_7 : decode jdk_52_method_15_code 7 = .ok (.i2b, 1) := by decide +kernel
theorem d7_8 : decode jdk_52_method_15_code 8 = .ok (.ireturn, 1) := by decide +kernel
theorem ef_7_24 (m : MethodId) (x0 : Addr) : entryFrame m #[(.ref x0), (.int (2 : Int32))] 2 = mkF m 0 #[.val (.ref x0), .val (.int (2 : Int32))] [] := by first | (simp [entryFrame, mkF, argsToLocals, Value.category]; done) | rfl
def Q_rm7_0 (Z : State) (a1 : Addr) (p2 : Int32) (p3 : Int32) (p4 : Int32) (p5 : Int32) (k6 : ClassId) (h0 : Heap) (n0 : Nat) (v : Option Value) (h : Heap) (L : List Loc) : Prop := v = some (.int (1 : Int32)) ∧ Fr n0 L ∧ h = h0
set_option maxRecDepth 65536 in
set_option maxHeartbeats 40000000 in
theorem rm7_0 (l : Launch) (Z : State) (a0 : Array Value) (hw : ∀ d ∈ tables_1, d.before a0 Z = true) (ws : List Jvm.Cond) (a1 : Addr) (p2 : Int32) (p3 : Int32) (p4 : Int32) (p5 : Int32) (k6 : ClassId) (h0 : Heap) (n0 : Nat) (OL0 : Old Z n0 h0) (pr1 : Arv Z h0 a1 k6 .byte (4 : Int32) [(.int p2), (.int p3), (.int p4), (.int p5)] (.int (0 : Int32))) :
    MetFree l mn7 (head1 (Jvm.Cond.code mn7 jdk_52_method_15_code 2 (some .byte) :: ws) ({ frames := 0, cells := 0, slots := 0, locals := 0 } : Room)) (fun a U => a = #[(.ref a1), (.int (2 : Int32))] ∧ Z.Warmed39 U.vm ∧ U.heap = h0) (fun _ _ _ _ _ => True) (fun _ U o U' => ∃ v L, o = .returned v ∧ Q_rm7_0 Z a1 p2 p3 p4 p5 k6 h0 n0 v U'.heap L ∧ FrameEnd U o U' L ({ frames := 0, cells := 0, slots := 0, locals := 0 } : Room).cells ({ frames := 0, cells := 0, slots := 0, locals := 0 } : Room).slots) := by
  refine MetFree.of_bodySF (plainFor_of_name pn_6) hisR ?_
  intro p e s m args below meth c s₁ Bd hml0 hP hK
  obtain ⟨rfl, hZ, hh⟩ := hP
  have hx := Bd.exec
  have hby := Bd.bytes
  have hml : c.maxLocals = 2 := hml0
  have hown : s.vm.findClass "java/lang/StringUTF16" = some m.cls := findClass_of_methodNamed Bd.named
  have hnm := (name_of_methodNamed Bd.named Bd.method).1
  have X0 : Stand p l e ({ frames := 0, cells := 0, slots := 0, locals := 0 } : Room) s m #[(.ref a1), (.int (2 : Int32))] below meth c s₁ [] 0 0 := Stand.of_body Bd
  have e0 : s₁.heap = h0 := by rw [← hh, Bd.state]; rfl
  have N0 := Fr.nil n0
  have pre0 : ∀ t, SS p e below s₁ m 0 #[rv a1, iv (2 : Int32)] [] t → Steps p.tables e below (s₁.setTop (entryFrame m #[(.ref a1), (.int (2 : Int32))] 2)) t := fun t k => castTop (ef_7_24 m a1) k
  obtain ⟨cl7, Ar7, -, Sz7, Nn7, -, -⟩ := id pr1
  obtain ⟨fs, hr, hrun, hended, hW, hsame⟩ := X0.leave (v := some (.int (1 : Int32))) (fun h => by rw [Bd.returns] at h; cases h)
  refine ⟨_, _, pre0 _ ?_, hrun, hended, _, _, rfl, ?_, ⟨_, rfl⟩, hW, hsame.mono (by decide) (by decide)⟩
  · show SS p e below s₁ m 0 #[rv a1, iv (2 : Int32)] [] _
    refine XS.iloadN X0.here hx rfl (hb hby d7_0) rfl ?_
    refine XS.aloadN X0.here hx rfl (hb hby d7_1) rfl rfl ?_
    show SS p e below s₁ m 2 #[rv a1, iv (2 : Int32)] [(.ref a1), (.int (2 : Int32))] _
    refine X0.arraylength hx (by rw [e0]; exact Ar7.1) (State.isArrayOf_alike hZ.alike Ar7.2.1) (g := (mkF m 2 #[rv a1, iv (2 : Int32)] [(.ref a1), (.int (2 : Int32))])) rfl rfl (hb hby d7_2) _ ?_
    rw [len_of Sz7 Nn7]
    show SS p e below s₁ m 3 #[rv a1, iv (2 : Int32)] [(.int (4 : Int32)), (.int (2 : Int32))] _
    refine XS.isub X0.here hx rfl (hb hby d7_3) rfl ?_
    show SS p e below s₁ m 4 #[rv a1, iv (2 : Int32)] [(.int (-2 : Int32))] _
    refine XS.bipush X0.here hx rfl (hb hby d7_4) ?_
    show SS p e below s₁ m 6 #[rv a1, iv (2 : Int32)] [(.int (31 : Int32)), (.int (-2 : Int32))] _
    refine XS.iushr X0.here hx rfl (hb hby d7_6) rfl ?_
    show SS p e below s₁ m 7 #[rv a1, iv (2 : Int32)] [(.int (1 : Int32))] _
    refine XS.i2b X0.here hx rfl (hb hby d7_7) rfl ?_
    show SS p e below s₁ m 8 #[rv a1, iv (2 : Int32)] [(.int (1 : Int32))] _
    exact retN X0 hx (t := .byte) Bd.returns (by simp) (hb hby d7_8) hr
  · show Q_rm7_0 Z a1 p2 p3 p4 p5 k6 h0 n0 _ s₁.heap _
    rw [e0]
    exact ⟨rfl, N0, rfl⟩
theorem pd_19 : parseMethodDescriptor "([BI)B" = some ⟨[(.array .byte), .int], some .byte⟩ := by decide +kernel
theorem d3_48 : decode jdk_42_method_149_code 48 = .ok (.putfield 15, 3) := by decide +kernel
theorem d3_51 : decode jdk_42_method_149_code 51 = .ok (.aload_n 0, 1) := by decide +kernel
theorem d3_52 : decode jdk_42_method_149_code 52 = .ok (.aload 5, 2) := by decide +kernel
theorem d3_54 : decode jdk_42_method_149_code 54 = .ok (.putfield 9, 3) := by decide +kernel
theorem d3_57 : decode jdk_42_method_149_code 57 = .ok (.return_, 1) := by decide +kernel
theorem ef_3_25 (m : MethodId) (x0 : Addr) (x1 : Addr) : entryFrame m #[(.ref x0), (.ref x1), (.int (0 : Int32)), (.int (2 : Int32)), .null] 6 = mkF m 0 #[.val (.ref x0), .val (.ref x1), .val (.int (0 : Int32)), .val (.int (2 : Int32)), .val .null, .unset] [] := by first | (simp [entryFrame, mkF, argsToLocals, Value.category]; done) | rfl
def Q_rm3_1 (Z : State) (a1 : Addr) (a2 : Addr) (p4 : Int32) (p6 : Int32) (p7 : Int32) (k8 : ClassId) (h0 : Heap) (n0 : Nat) (v : Option Value) (h : Heap) (L : List Loc) : Prop := ∃ b9_0 : Addr, ∃ kx9_0 : ClassId, v = none ∧ Fr n0 L ∧ Keep h0 h [a1] ∧ h0.size ≤ b9_0 ∧ Fld Z h a1 "java/lang/String" "coder" "B" (.int (1 : Int32)) ∧ Fld Z h a1 "java/lang/String" "value" "[B" (.ref b9_0) ∧ Arv Z h b9_0 kx9_0 .byte (4 : Int32) [(.int (((p6 >>> ((0 : Int32) &&& 31)).toInt8.toInt32).toInt8.toInt32)), (.int (((p6 >>> ((8 : Int32) &&& 31)).toInt8.toInt32).toInt8.toInt32)), (.int (((p7 >>> ((0 : Int32) &&& 31)).toInt8.toInt32).toInt8.toInt32)), (.int (((p7 >>> ((8 : Int32) &&& 31)).toInt8.toInt32).toInt8.toInt32))] (.int (0 : Int32))
set_option maxRecDepth 65536 in
set_option maxHeartbeats 40000000 in
theorem rm3_1 (l : Launch) (Z : State) (a0 : Array Value) (hw : ∀ d ∈ tables_1, d.before a0 Z = true) (ws : List Jvm.Cond) (a1 : Addr) (a2 : Addr) (p4 : Int32) (p6 : Int32) (p7 : Int32) (k8 : ClassId) (h0 : Heap) (n0 : Nat) (OL0 : Old Z n0 h0) (pr1 : Sta Z Z.heap "java/lang/String" "COMPACT_STRINGS" "Z" (.int p4)) (pr2 : ¬ (p4 = (0 : Int32))) (pr3 : Arv Z h0 a2 k8 .char (2 : Int32) [(.int p6), (.int p7)] (.int (0 : Int32))) (pr4 : (255 : Int32) < p6) (pr5 : Sta Z Z.heap "java/lang/StringUTF16" "$assertionsDisabled" "Z" (.int (1 : Int32))) (pr6 : Sta Z Z.heap "java/lang/StringUTF16" "HI_BYTE_SHIFT" "I" (.int (0 : Int32))) (pr7 : Sta Z Z.heap "java/lang/StringUTF16" "LO_BYTE_SHIFT" "I" (.int (8 : Int32))) (pr8 : (255 : Int32) < (nar .char (((((((p6 >>> ((0 : Int32) &&& 31)).toInt8.toInt32).toInt8.toInt32) &&& (255 : Int32)) <<< ((0 : Int32) &&& 31)) ||| (((((p6 >>> ((8 : Int32) &&& 31)).toInt8.toInt32).toInt8.toInt32) &&& (255 : Int32)) <<< ((8 : Int32) &&& 31))).toUInt32.toUInt16.toUInt32.toInt32))) (pr9 : Exa Z h0 a1 "java/lang/String") (pr10 : Fld Z h0 a1 "java/lang/String" "coder" "B" (.int (0 : Int32))) (pr11 : n0 ≤ a1) (pr12 : Fld Z h0 a1 "java/lang/String" "value" "[B" .null) :
    MetFree l mn3 (head1 (Jvm.Cond.code mn3 jdk_42_method_149_code 6 none :: ws) ({ frames := 4, cells := 2, slots := 6, locals := 57 } : Room)) (fun a U => a = #[(.ref a1), (.ref a2), (.int (0 : Int32)), (.int (2 : Int32)), .null] ∧ Z.Warmed39 U.vm ∧ U.heap = h0) (fun _ _ _ _ _ => True) (fun _ U o U' => ∃ v L, o = .returned v ∧ Q_rm3_1 Z a1 a2 p4 p6 p7 k8 h0 n0 v U'.heap L ∧ FrameEnd U o U' L ({ frames := 4, cells := 2, slots := 6, locals := 57 } : Room).cells ({ frames := 4, cells := 2, slots := 6, locals := 57 } : Room).slots) := by
  refine MetFree.of_bodySF (plainFor_of_name pn_0) hisR ?_
  intro p e s m args below meth c s₁ Bd hml0 hP hK
  obtain ⟨rfl, hZ, hh⟩ := hP
  have hx := Bd.exec
  have hby := Bd.bytes
  have hml : c.maxLocals = 6 := hml0
  have hown : s.vm.findClass "java/lang/String" = some m.cls := findClass_of_methodNamed Bd.named
  have hnm := (name_of_methodNamed Bd.named Bd.method).1
  have X0 : Stand p l e ({ frames := 4, cells := 2, slots := 6, locals := 57 } : Room) s m #[(.ref a1), (.ref a2), (.int (0 : Int32)), (.int (2 : Int32)), .null] below meth c s₁ [] 0 0 := Stand.of_body Bd
  have e0 : s₁.heap = h0 := by rw [← hh, Bd.state]; rfl
  have N0 := Fr.nil n0
  have pre0 : ∀ t, SS p e below s₁ m 0 #[rv a1, rv a2, iv (0 : Int32), iv (2 : Int32), .val .null, .unset] [] t → Steps p.tables e below (s₁.setTop (entryFrame m #[(.ref a1), (.ref a2), (.int (0 : Int32)), (.int (2 : Int32)), .null] 6)) t := fun t k => castTop (ef_3_25 m a1 a2) k
  obtain ⟨T3, X3, e3, st3⟩ := initO X0 hx hZ hown (wd16 hw) (wd17 hw) (wd18 hw) e0 (g := (mkF m 1 #[rv a1, rv a2, iv (0 : Int32), iv (2 : Int32), .val .null, .unset] [(.ref a1)])) rfl (by rw [hml]; rfl) rfl (hb hby d3_1) (by decide) (W := 0) (by show 2 * 0 + _ ≤ _; exact Nat.le_of_eq rfl) (by decide)
  obtain ⟨T5, X5, e5, st5⟩ := getS2 X3 hx hZ hown (host := "") (Or.inl (wd19 hw)) Via.refl e3 (pr1.ext OL0.2) (g := (mkF m 27 #[rv a1, rv a2, iv (0 : Int32), iv (2 : Int32), .val .null, .unset] [])) rfl (hb hby d3_27)
  obtain ⟨_, _, ⟨T9, L9, k9, n9⟩, -, X9, ⟨Lc9, hQ9, l9, y9, z9⟩, st9⟩ := Jvm.LawKit.callS X5 hx (y := mn5) hown (mvT hZ (wd20 hw)) (mvT hZ (wd21 hw)) (mvT hZ (wd22 hw)) (mvT hZ (wd23 hw)) (by decide) (backOf (W := 0) (rm5_0 l Z a0 hw [] a2 p6 p7 k8 h0 n0 OL0 pr3 pr4 pr5 pr6 pr7 pr8) hZ (wd23 hw) (wd22 hw) (by decide) (by decide)) (g := (mkF m 36 #[rv a1, rv a2, iv (0 : Int32), iv (2 : Int32), .val .null, .unset] [(.int (2 : Int32)), (.int (0 : Int32)), (.ref a2)])) rfl (by rw [hml]; rfl) (argsL := [(.ref a2), (.int (0 : Int32)), (.int (2 : Int32))]) (rest := []) (lenOf pd_17 rfl) rfl (by show 2 * 0 + _ ≤ _; exact Nat.le_of_eq rfl) (hb hby d3_36) (fun _ _ => ⟨rfl, e5, (by decide : 0 + 2 ≤ _), (by decide : 0 + 6 ≤ _)⟩)
  dsimp only [Pt.U, Pt.locs, Pt.cells, Pt.slots] at X9 l9 y9 z9 st9 hQ9
  subst l9 y9 z9
  obtain ⟨b9_0, kx9_0, rfl, Nq9, K9, u9_0, u9_1⟩ := hQ9
  have KK9 : Keep h0 T9.heap [a1] := (Keep.refl h0 [a1]).trans K9 all0
  have OL9 := OL0.keep K9 all0
  have g_b9_0 : n0 ≤ b9_0 := Nat.le_trans (Nat.le_trans (Nat.le_of_eq OL0.1.symm) OL0.2.1) u9_0
  have sz_b9_0 : h0.size ≤ b9_0 := Nat.le_trans (Keep.refl h0 [a1]).1 u9_0
  have N9 := Fr.app N0 Nq9
  obtain ⟨_, _, ⟨T10, L10, k10, n10⟩, -, X10, ⟨Lc10, hQ10, l10, y10, z10⟩, st10⟩ := Jvm.LawKit.callS X9 hx (y := mn7) hown (mvT hZ (wd28 hw)) (mvT hZ (wd29 hw)) (mvT hZ (wd22 hw)) (mvT hZ (wd30 hw)) (by decide) (backOf (W := 1) (rm7_0 l Z a0 hw [] b9_0 (((p6 >>> ((0 : Int32) &&& 31)).toInt8.toInt32).toInt8.toInt32) (((p6 >>> ((8 : Int32) &&& 31)).toInt8.toInt32).toInt8.toInt32) (((p7 >>> ((0 : Int32) &&& 31)).toInt8.toInt32).toInt8.toInt32) (((p7 >>> ((8 : Int32) &&& 31)).toInt8.toInt32).toInt8.toInt32) kx9_0 T9.heap n0 OL9 u9_1) hZ (wd30 hw) (wd22 hw) (by decide) (by decide)) (g := (mkF m 45 #[rv a1, rv a2, iv (0 : Int32), iv (2 : Int32), .val .null, rv b9_0] [(.int (2 : Int32)), (.ref b9_0), (.ref a1)])) rfl (by rw [hml]; rfl) (argsL := [(.ref b9_0), (.int (2 : Int32))]) (rest := [(.ref a1)]) (lenOf pd_19 rfl) rfl (by show 2 * 0 + _ ≤ _; exact Nat.le_of_eq rfl) (hb hby d3_45) (fun _ _ => ⟨rfl, rfl, (by decide : 2 + 0 ≤ _), (by decide : 6 + 0 ≤ _)⟩)
  dsimp only [Pt.U, Pt.locs, Pt.cells, Pt.slots] at X10 l10 y10 z10 st10 hQ10
  subst l10 y10 z10
  obtain ⟨rfl, Nq10, ec10⟩ := hQ10
  have N10 := Fr.app N9 Nq10
  have fc11 := (pr9.keep K9)
  have fc12 := (pr10.keep K9 nin0)
  obtain ⟨T13, h13, X13, e13, W13, st13⟩ := putFN X10 hx hZ hown (wd31 hw) Via.refl ec10 fc12 fc11 (Or.inr ⟨(wd32 hw), rfl, hnm⟩) (wd6 hw) (ty := .byte) (v' := (.int (1 : Int32))) (by decide) rfl rfl (g := (mkF m 48 #[rv a1, rv a2, iv (0 : Int32), iv (2 : Int32), .val .null, rv b9_0] [(.int (1 : Int32)), (.ref a1)])) rfl rfl (hb hby d3_48)
  have Fw13 := fc12.same W13
  have KK13 : Keep h0 h13 [a1] := KK9.wr W13 (Or.inl (List.mem_of_getElem? (i := 0) rfl))
  have OL13 := OL9.wr W13 pr11
  have N13 := Fr.snoc X13 N10 pr11
  have fc14 := (fc11.wr W13)
  have fc15 := ((pr12.keep K9 nin0).other W13 (Or.inr (slot_ne (Or.inr (wd34 hw)) (Or.inr (wd32 hw)) (by decide) (t := (.array .byte)) (t' := .byte) (by decide) (by decide))))
  obtain ⟨T16, h16, X16, e16, W16, st16⟩ := putF X13 hx hZ hown (host := "") (Or.inl (wd33 hw)) Via.refl e13 fc15 fc14 (Or.inr ⟨(wd34 hw), rfl, hnm⟩) (wd6 hw) (ty := (.array .byte)) (by decide) rfl rfl (g := (mkF m 54 #[rv a1, rv a2, iv (0 : Int32), iv (2 : Int32), .val .null, rv b9_0] [(.ref b9_0), (.ref a1)])) rfl rfl (hb hby d3_54)
  have Fw16 := fc15.same W16
  have KK16 : Keep h0 h16 [a1] := KK13.wr W16 (Or.inl (List.mem_of_getElem? (i := 0) rfl))
  have OL16 := OL13.wr W16 pr11
  have N16 := Fr.snoc X16 N13 pr11
  have fc17 := (Fw13.other W16 (Or.inr (slot_ne (Or.inr (wd32 hw)) (Or.inr (wd34 hw)) (by decide) (t := .byte) (t' := (.array .byte)) (by decide) (by decide))))
  have fc18 := ((u9_1.other W13 (Ne.symm (Nat.ne_of_lt (Nat.lt_of_lt_of_le pr9.lt sz_b9_0)))).other W16 (Ne.symm (Nat.ne_of_lt (Nat.lt_of_lt_of_le pr9.lt sz_b9_0))))
  obtain ⟨fs, hr, hrun, hended, hW, hsame⟩ := X16.leave (v := none) (fun _ => rfl)
  refine ⟨_, _, pre0 _ ?_, hrun, hended, _, _, rfl, ?_, ⟨_, rfl⟩, hW, hsame.mono (by decide) (by decide)⟩
  · show SS p e below s₁ m 0 #[rv a1, rv a2, iv (0 : Int32), iv (2 : Int32), .val .null, .unset] [] _
    refine XS.aloadN X0.here hx rfl (hb hby d3_0) rfl rfl ?_
    show SS p e below s₁ m 1 #[rv a1, rv a2, iv (0 : Int32), iv (2 : Int32), .val .null, .unset] [(.ref a1)] _
    refine st3 _ ?_
    show SS p e below T3 m 4 #[rv a1, rv a2, iv (0 : Int32), iv (2 : Int32), .val .null, .unset] [] _
    refine XS.iloadN X3.here hx rfl (hb hby d3_4) rfl ?_
    show SS p e below T3 m 5 #[rv a1, rv a2, iv (0 : Int32), iv (2 : Int32), .val .null, .unset] [(.int (2 : Int32))] _
    refine XS.ifYes X3.here hx rfl (pc0 := 5) (pc' := 27) rfl (hb hby d3_5) rfl ((if0 _ _).trans (feq (by decide : ¬ ((2 : Int32) = (0 : Int32)))).2) (by decide) (by decide) ?_
    show SS p e below T3 m 27 #[rv a1, rv a2, iv (0 : Int32), iv (2 : Int32), .val .null, .unset] [] _
    refine st5 _ ?_
    show SS p e below T5 m 30 #[rv a1, rv a2, iv (0 : Int32), iv (2 : Int32), .val .null, .unset] [(.int p4)] _
    refine XS.ifNo X5.here hx rfl (hb hby d3_30) rfl ((if0 _ _).trans (feq pr2).1) ?_
    show SS p e below T5 m 33 #[rv a1, rv a2, iv (0 : Int32), iv (2 : Int32), .val .null, .unset] [] _
    refine XS.aloadN X5.here hx rfl (hb hby d3_33) rfl rfl ?_
    refine XS.iloadN X5.here hx rfl (hb hby d3_34) rfl ?_
    refine XS.iloadN X5.here hx rfl (hb hby d3_35) rfl ?_
    show SS p e below T5 m 36 #[rv a1, rv a2, iv (0 : Int32), iv (2 : Int32), .val .null, .unset] [(.int (2 : Int32)), (.int (0 : Int32)), (.ref a2)] _
    refine st9 _ ?_
    show SS p e below T9 m 39 #[rv a1, rv a2, iv (0 : Int32), iv (2 : Int32), .val .null, .unset] [(.ref b9_0)] _
    refine XS.astore X9.here hx rfl (hb hby d3_39) rfl rfl (l' := #[rv a1, rv a2, iv (0 : Int32), iv (2 : Int32), .val .null, rv b9_0]) rfl ?_
    refine XS.aloadN X9.here hx rfl (hb hby d3_41) rfl rfl ?_
    refine XS.aload X9.here hx rfl (hb hby d3_42) rfl rfl ?_
    refine XS.iloadN X9.here hx rfl (hb hby d3_44) rfl ?_
    show SS p e below T9 m 45 #[rv a1, rv a2, iv (0 : Int32), iv (2 : Int32), .val .null, rv b9_0] [(.int (2 : Int32)), (.ref b9_0), (.ref a1)] _
    refine st10 _ ?_
    show SS p e below T10 m 48 #[rv a1, rv a2, iv (0 : Int32), iv (2 : Int32), .val .null, rv b9_0] [(.int (1 : Int32)), (.ref a1)] _
    refine st13 _ ?_
    show SS p e below T13 m 51 #[rv a1, rv a2, iv (0 : Int32), iv (2 : Int32), .val .null, rv b9_0] [] _
    refine XS.aloadN X13.here hx rfl (hb hby d3_51) rfl rfl ?_
    refine XS.aload X13.here hx rfl (hb hby d3_52) rfl rfl ?_
    show SS p e below T13 m 54 #[rv a1, rv a2, iv (0 : Int32), iv (2 : Int32), .val .null, rv b9_0] [(.ref b9_0), (.ref a1)] _
    refine st16 _ ?_
    show SS p e below T16 m 57 #[rv a1, rv a2, iv (0 : Int32), iv (2 : Int32), .val .null, rv b9_0] [] _
    exact X16.returnOut hx Bd.returns (hb hby d3_57) hr
  · show Q_rm3_1 Z a1 a2 p4 p6 p7 k8 h0 n0 _ T16.heap _
    rw [e16]
    exact ⟨b9_0, kx9_0, rfl, N16, KK16, sz_b9_0, fc17, Fw16, fc18⟩
def Q_rm2_1 (Z : State) (a1 : Addr) (a2 : Addr) (p3 : Int32) (p4 : Int32) (k5 : ClassId) (p7 : Int32) (h0 : Heap) (n0 : Nat) (v : Option Value) (h : Heap) (L : List Loc) : Prop := ∃ b8_0 : Addr, ∃ kx8_0 : ClassId, v = none ∧ Fr n0 L ∧ Keep h0 h [a1] ∧ h0.size ≤ b8_0 ∧ Fld Z h a1 "java/lang/String" "coder" "B" (.int (1 : Int32)) ∧ Fld Z h a1 "java/lang/String" "value" "[B" (.ref b8_0) ∧ Arv Z h b8_0 kx8_0 .byte (4 : Int32) [(.int (((p3 >>> ((0 : Int32) &&& 31)).toInt8.toInt32).toInt8.toInt32)), (.int (((p3 >>> ((8 : Int32) &&& 31)).toInt8.toInt32).toInt8.toInt32)), (.int (((p4 >>> ((0 : Int32) &&& 31)).toInt8.toInt32).toInt8.toInt32)), (.int (((p4 >>> ((8 : Int32) &&& 31)).toInt8.toInt32).toInt8.toInt32))] (.int (0 : Int32))
set_option maxRecDepth 65536 in
set_option maxHeartbeats 40000000 in
theorem rm2_1 (l : Launch) (Z : State) (a0 : Array Value) (hw : ∀ d ∈ tables_1, d.before a0 Z = true) (ws : List Jvm.Cond) (a1 : Addr) (a2 : Addr) (p3 : Int32) (p4 : Int32) (k5 : ClassId) (p7 : Int32) (h0 : Heap) (n0 : Nat) (OL0 : Old Z n0 h0) (pr1 : Arv Z h0 a2 k5 .char (2 : Int32) [(.int p3), (.int p4)] (.int (0 : Int32))) (pr2 : Sta Z Z.heap "java/lang/String" "COMPACT_STRINGS" "Z" (.int p7)) (pr3 : ¬ (p7 = (0 : Int32))) (pr4 : (255 : Int32) < p3) (pr5 : Sta Z Z.heap "java/lang/StringUTF16" "$assertionsDisabled" "Z" (.int (1 : Int32))) (pr6 : Sta Z Z.heap "java/lang/StringUTF16" "HI_BYTE_SHIFT" "I" (.int (0 : Int32))) (pr7 : Sta Z Z.heap "java/lang/StringUTF16" "LO_BYTE_SHIFT" "I" (.int (8 : Int32))) (pr8 : (255 : Int32) < (nar .char (((((((p3 >>> ((0 : Int32) &&& 31)).toInt8.toInt32).toInt8.toInt32) &&& (255 : Int32)) <<< ((0 : Int32) &&& 31)) ||| (((((p3 >>> ((8 : Int32) &&& 31)).toInt8.toInt32).toInt8.toInt32) &&& (255 : Int32)) <<< ((8 : Int32) &&& 31))).toUInt32.toUInt16.toUInt32.toInt32))) (pr9 : Exa Z h0 a1 "java/lang/String") (pr10 : Fld Z h0 a1 "java/lang/String" "coder" "B" (.int (0 : Int32))) (pr11 : n0 ≤ a1) (pr12 : Fld Z h0 a1 "java/lang/String" "value" "[B" .null) :
    MetFree l mn2 (head1 (Jvm.Cond.code mn2 jdk_42_method_3_code 2 none :: ws) ({ frames := 5, cells := 2, slots := 6, locals := 74 } : Room)) (fun a U => a = #[(.ref a1), (.ref a2)] ∧ Z.Warmed39 U.vm ∧ U.heap = h0) (fun _ _ _ _ _ => True) (fun _ U o U' => ∃ v L, o = .returned v ∧ Q_rm2_1 Z a1 a2 p3 p4 k5 p7 h0 n0 v U'.heap L ∧ FrameEnd U o U' L ({ frames := 5, cells := 2, slots := 6, locals := 74 } : Room).cells ({ frames := 5, cells := 2, slots := 6, locals := 74 } : Room).slots) := by
  refine MetFree.of_bodySF (plainFor_of_name pn_0) hisR ?_
  intro p e s m args below meth c s₁ Bd hml0 hP hK
  obtain ⟨rfl, hZ, hh⟩ := hP
  have hx := Bd.exec
  have hby := Bd.bytes
  have hml : c.maxLocals = 2 := hml0
  have hown : s.vm.findClass "java/lang/String" = some m.cls := findClass_of_methodNamed Bd.named
  have hnm := (name_of_methodNamed Bd.named Bd.method).1
  have X0 : Stand p l e ({ frames := 5, cells := 2, slots := 6, locals := 74 } : Room) s m #[(.ref a1), (.ref a2)] below meth c s₁ [] 0 0 := Stand.of_body Bd
  have e0 : s₁.heap = h0 := by rw [← hh, Bd.state]; rfl
  have N0 := Fr.nil n0
  have pre0 : ∀ t, SS p e below s₁ m 0 #[rv a1, rv a2] [] t → Steps p.tables e below (s₁.setTop (entryFrame m #[(.ref a1), (.ref a2)] 2)) t := fun t k => castTop (ef_2_1 m a1 a2) k
  obtain ⟨cl6, Ar6, -, Sz6, Nn6, -, -⟩ := id pr1
  obtain ⟨_, _, ⟨T8, L8, k8, n8⟩, -, X8, ⟨Lc8, hQ8, l8, y8, z8⟩, st8⟩ := X0.specialBack hx (y := mn3) rfl hown (mvT hZ (wd12 hw)) (mvT hZ (wd13 hw)) (mvT hZ (wd15 hw)) (by decide) (backOf (W := 0) (rm3_1 l Z a0 hw [] a1 a2 p7 p3 p4 k5 h0 n0 OL0 pr2 pr3 pr1 pr4 pr5 pr6 pr7 pr8 pr9 pr10 pr11 pr12) hZ (wd15 hw) (wd7 hw) (by decide) (by decide)) (g := (mkF m 6 #[rv a1, rv a2] [.null, (.int (2 : Int32)), (.int (0 : Int32)), (.ref a2), (.ref a1)])) rfl (by rw [hml]; rfl) (Steps.refl _) (a := a1) (argsL := [(.ref a2), (.int (0 : Int32)), (.int (2 : Int32)), .null]) (rest := []) (lenOf pd_0 rfl) rfl (by show 2 * 0 + _ ≤ _; exact Nat.le_of_eq rfl) (hb hby d2_6) (fun _ _ => ⟨rfl, e0, (by decide : 0 + 2 ≤ _), (by decide : 0 + 6 ≤ _)⟩)
  dsimp only [Pt.U, Pt.locs, Pt.cells, Pt.slots] at X8 l8 y8 z8 st8 hQ8
  subst l8 y8 z8
  obtain ⟨b8_0, kx8_0, rfl, Nq8, K8, u8_0, u8_1, u8_2, u8_3⟩ := hQ8
  have KK8 : Keep h0 T8.heap [a1] := (Keep.refl h0 [a1]).trans K8 (allS (Or.inl (List.mem_of_getElem? (i := 0) rfl)) all0)
  have OL8 := OL0.keep K8 (allS pr11 all0)
  have g_b8_0 : n0 ≤ b8_0 := Nat.le_trans (Nat.le_trans (Nat.le_of_eq OL0.1.symm) OL0.2.1) u8_0
  have sz_b8_0 : h0.size ≤ b8_0 := Nat.le_trans (Keep.refl h0 [a1]).1 u8_0
  have N8 := Fr.app N0 Nq8
  obtain ⟨fs, hr, hrun, hended, hW, hsame⟩ := X8.leave (v := none) (fun _ => rfl)
  refine ⟨_, _, pre0 _ ?_, hrun, hended, _, _, rfl, ?_, ⟨_, rfl⟩, hW, hsame.mono (by decide) (by decide)⟩
  · show SS p e below s₁ m 0 #[rv a1, rv a2] [] _
    refine XS.aloadN X0.here hx rfl (hb hby d2_0) rfl rfl ?_
    refine XS.aloadN X0.here hx rfl (hb hby d2_1) rfl rfl ?_
    refine XS.iconst X0.here hx rfl (hb hby d2_2) ?_
    refine XS.aloadN X0.here hx rfl (hb hby d2_3) rfl rfl ?_
    show SS p e below s₁ m 4 #[rv a1, rv a2] [(.ref a2), (.int (0 : Int32)), (.ref a2), (.ref a1)] _
    refine X0.arraylength hx (by rw [e0]; exact Ar6.1) (State.isArrayOf_alike hZ.alike Ar6.2.1) (g := (mkF m 4 #[rv a1, rv a2] [(.ref a2), (.int (0 : Int32)), (.ref a2), (.ref a1)])) rfl rfl (hb hby d2_4) _ ?_
    rw [len_of Sz6 Nn6]
    show SS p e below s₁ m 5 #[rv a1, rv a2] [(.int (2 : Int32)), (.int (0 : Int32)), (.ref a2), (.ref a1)] _
    refine XS.aconstNull X0.here hx rfl (hb hby d2_5) ?_
    show SS p e below s₁ m 6 #[rv a1, rv a2] [.null, (.int (2 : Int32)), (.int (0 : Int32)), (.ref a2), (.ref a1)] _
    refine st8.trans ?_
    show SS p e below T8 m 9 #[rv a1, rv a2] [] _
    exact X8.returnOut hx Bd.returns (hb hby d2_9) hr
  · show Q_rm2_1 Z a1 a2 p3 p4 k5 p7 h0 n0 _ T8.heap _
    exact ⟨b8_0, kx8_0, rfl, N8, KK8, sz_b8_0, u8_1, u8_2, u8_3⟩
theorem d1_48 : decode method_2_code 48 = .ok (.areturn, 1) := by decide +kernel
theorem ef_1_26 (m : MethodId) (x1 : Int32) (x2 : Int32) (x3 : Int32) : entryFrame m #[(.int (2 : Int32)), (.int x1), (.int x2), (.int x3)] 4 = mkF m 0 #[.val (.int (2 : Int32)), .val (.int x1), .val (.int x2), .val (.int x3)] [] := by first | (simp [entryFrame, mkF, argsToLocals, Value.category]; done) | rfl
def Q_rm1_3 (Z : State) (p1 : Int32) (p2 : Int32) (p3 : Int32) (p10 : Int32) (h0 : Heap) (n0 : Nat) (v : Option Value) (h : Heap) (L : List Loc) : Prop := ∃ b4 : Addr, ∃ b11_0 : Addr, ∃ kx11_0 : ClassId, v = some (.ref b4) ∧ Fr n0 L ∧ Keep h0 h [] ∧ h0.size ≤ b4 ∧ h0.size ≤ b11_0 ∧ b4 ≠ b11_0 ∧ Exa Z h b4 "java/lang/String" ∧ Fld Z h b4 "java/lang/String" "coder" "B" (.int (1 : Int32)) ∧ Fld Z h b4 "java/lang/String" "value" "[B" (.ref b11_0) ∧ Arv Z h b11_0 kx11_0 .byte (4 : Int32) [(.int ((((nar .char p1) >>> ((0 : Int32) &&& 31)).toInt8.toInt32).toInt8.toInt32)), (.int ((((nar .char p1) >>> ((8 : Int32) &&& 31)).toInt8.toInt32).toInt8.toInt32)), (.int ((((nar .char p2) >>> ((0 : Int32) &&& 31)).toInt8.toInt32).toInt8.toInt32)), (.int ((((nar .char p2) >>> ((8 : Int32) &&& 31)).toInt8.toInt32).toInt8.toInt32))] (.int (0 : Int32))
set_option maxRecDepth 65536 in
set_option maxHeartbeats 40000000 in
theorem rm1_3 (l : Launch) (Z : State) (a0 : Array Value) (hw : ∀ d ∈ tables_1, d.before a0 Z = true) (ws : List Jvm.Cond) (p1 : Int32) (p2 : Int32) (p3 : Int32) (p10 : Int32) (h0 : Heap) (n0 : Nat) (OL0 : Old Z n0 h0) (pr1 : Sta Z Z.heap "java/lang/String" "COMPACT_STRINGS" "Z" (.int p10)) (pr2 : ¬ (p10 = (0 : Int32))) (pr3 : (255 : Int32) < (nar .char p1)) (pr4 : Sta Z Z.heap "java/lang/StringUTF16" "$assertionsDisabled" "Z" (.int (1 : Int32))) (pr5 : Sta Z Z.heap "java/lang/StringUTF16" "HI_BYTE_SHIFT" "I" (.int (0 : Int32))) (pr6 : Sta Z Z.heap "java/lang/StringUTF16" "LO_BYTE_SHIFT" "I" (.int (8 : Int32))) (pr7 : (255 : Int32) < (nar .char ((((((((nar .char p1) >>> ((0 : Int32) &&& 31)).toInt8.toInt32).toInt8.toInt32) &&& (255 : Int32)) <<< ((0 : Int32) &&& 31)) ||| ((((((nar .char p1) >>> ((8 : Int32) &&& 31)).toInt8.toInt32).toInt8.toInt32) &&& (255 : Int32)) <<< ((8 : Int32) &&& 31))).toUInt32.toUInt16.toUInt32.toInt32))) :
    MetFree l mn1 (head1 (Jvm.Cond.code mn1 method_2_code 4 (some (.object "java/lang/String")) :: ws) ({ frames := 6, cells := 4, slots := 12, locals := 88 } : Room)) (fun a U => a = #[(.int (2 : Int32)), (.int p1), (.int p2), (.int p3)] ∧ Z.Warmed39 U.vm ∧ U.heap = h0) (fun _ _ _ _ _ => True) (fun _ U o U' => ∃ v L, o = .returned v ∧ Q_rm1_3 Z p1 p2 p3 p10 h0 n0 v U'.heap L ∧ FrameEnd U o U' L ({ frames := 6, cells := 4, slots := 12, locals := 88 } : Room).cells ({ frames := 6, cells := 4, slots := 12, locals := 88 } : Room).slots) := by
  refine MetFree.of_bodySF (plainFor_of_name pn_1) hisR ?_
  intro p e s m args below meth c s₁ Bd hml0 hP hK
  obtain ⟨rfl, hZ, hh⟩ := hP
  have hx := Bd.exec
  have hby := Bd.bytes
  have hml : c.maxLocals = 4 := hml0
  have hown : s.vm.findClass "com/example/aeroslice/aeroslice/SrsDefaultsOfPinLaw" = some m.cls := findClass_of_methodNamed Bd.named
  have hnm := (name_of_methodNamed Bd.named Bd.method).1
  have X0 : Stand p l e ({ frames := 6, cells := 4, slots := 12, locals := 88 } : Room) s m #[(.int (2 : Int32)), (.int p1), (.int p2), (.int p3)] below meth c s₁ [] 0 0 := Stand.of_body Bd
  have e0 : s₁.heap = h0 := by rw [← hh, Bd.state]; rfl
  have N0 := Fr.nil n0
  have pre0 : ∀ t, SS p e below s₁ m 0 #[iv (2 : Int32), iv p1, iv p2, iv p3] [] t → Steps p.tables e below (s₁.setTop (entryFrame m #[(.int (2 : Int32)), (.int p1), (.int p2), (.int p3)] 4)) t := fun t k => castTop (ef_1_26 m p1 p2 p3) k
  obtain ⟨T4, h4, X4, e4, E4, A4, D4, -, st4⟩ := newO X0 hx hZ hown (wd5 hw) (wd6 hw) (wd7 hw) e0 (g := (mkF m 30 #[iv (2 : Int32), iv p1, iv p2, iv p3] [])) rfl (hb hby d1_30) (by decide) (by decide)
  obtain ⟨b4, g4⟩ : ∃ z, z = h0.size := ⟨_, rfl⟩
  rw [← g4] at A4 D4 st4
  have g_b4 : n0 ≤ b4 := (Nat.le_trans (Nat.le_trans (Nat.le_of_eq OL0.1.symm) OL0.2.1) (Nat.le_of_eq g4.symm))
  have sz_b4 : h0.size ≤ b4 := (Nat.le_trans (Keep.refl h0 []).1 (Nat.le_of_eq g4.symm))
  have KK4 : Keep h0 h4 [] := (Keep.refl h0 []).ext E4
  have OL4 := OL0.ext E4
  have F_coder_b4 : Fld Z h4 b4 "java/lang/String" "coder" "B" (.int (0 : Int32)) := D4 (Or.inr (wd32 hw)) (ty := .byte) (by decide)
  have F_value_b4 : Fld Z h4 b4 "java/lang/String" "value" "[B" .null := D4 (Or.inr (wd34 hw)) (ty := (.array .byte)) (by decide)
  obtain ⟨T5, h5, k5, X5, e5, E5, A5, st5⟩ := newP (aty := .char) X4 hx hZ (wd8 hw) e4 (g := (mkF m 35 #[iv (2 : Int32), iv p1, iv p2, iv p3] [(.int (2 : Int32)), (.ref b4), (.ref b4)])) rfl (hb hby d1_35) rfl (by decide) (cap := 2) (by decide) (by decide) (by decide) (by decide)
  obtain ⟨b5, g5⟩ : ∃ z, z = h4.size := ⟨_, rfl⟩
  rw [← g5] at A5 st5
  have V5 : Arv Z h5 b5 k5 .char (2 : Int32) [(.int (0 : Int32)), (.int (0 : Int32))] (.int (0 : Int32)) := (Arv.new A5 (by decide)).pad (pad_rep [] (.int (0 : Int32)) 2)
  have g_b5 : n0 ≤ b5 := (Nat.le_trans (Nat.le_trans (Nat.le_of_eq OL4.1.symm) OL4.2.1) (Nat.le_of_eq g5.symm))
  have sz_b5 : h0.size ≤ b5 := (Nat.le_trans KK4.1 (Nat.le_of_eq g5.symm))
  have KK5 : Keep h0 h5 [] := KK4.ext E5
  have OL5 := OL4.ext E5
  obtain ⟨cl6, Ar6, q6, S6, M6, Hs6, G6⟩ := id V5
  have hin6 : ¬ ((0 : Int32) < 0 ∨ cl6.slots.size ≤ ((0 : Int32)).toNatClampNeg) := inb_of S6 ⟨by decide, by decide⟩
  obtain ⟨T7, h7, X7, e7, W7, st7⟩ := stC X5 hx hZ e5 Ar6 (j := (0 : Int32)) hin6 (g := (mkF m 40 #[iv (2 : Int32), iv p1, iv p2, iv p3] [(.int p1), (.int (0 : Int32)), (.ref b5), (.ref b5), (.ref b4), (.ref b4)])) rfl rfl (hb hby d1_40)
  have V7 : Arv Z h7 b5 k5 .char (2 : Int32) [(.int (nar .char p1)), (.int (0 : Int32))] (.int (0 : Int32)) := Arv.set Ar6 q6 S6 M6 Hs6 G6 (fits_nar_char _) W7 0 rfl (Nat.le_of_ble_eq_true rfl)
  have KK7 : Keep h0 h7 [] := KK5.wr W7 (Or.inr sz_b5)
  have OL7 := OL5.wr W7 g_b5
  have N7 := Fr.snoc X7 N0 g_b5
  obtain ⟨cl8, Ar8, q8, S8, M8, Hs8, G8⟩ := id V7
  have hin8 : ¬ ((1 : Int32) < 0 ∨ cl8.slots.size ≤ ((1 : Int32)).toNatClampNeg) := inb_of S8 ⟨by decide, by decide⟩
  obtain ⟨T9, h9, X9, e9, W9, st9⟩ := stC X7 hx hZ e7 Ar8 (j := (1 : Int32)) hin8 (g := (mkF m 44 #[iv (2 : Int32), iv p1, iv p2, iv p3] [(.int p2), (.int (1 : Int32)), (.ref b5), (.ref b5), (.ref b4), (.ref b4)])) rfl rfl (hb hby d1_44)
  have V9 : Arv Z h9 b5 k5 .char (2 : Int32) [(.int (nar .char p1)), (.int (nar .char p2))] (.int (0 : Int32)) := Arv.set Ar8 q8 S8 M8 Hs8 G8 (fits_nar_char _) W9 1 rfl (Nat.le_of_ble_eq_true rfl)
  have KK9 : Keep h0 h9 [] := KK7.wr W9 (Or.inr sz_b5)
  have OL9 := OL7.wr W9 g_b5
  have N9 := Fr.snoc X9 N7 g_b5
  have fc12 := (((A4.ext E5).wr W7).wr W9)
  have fc13 := (((F_coder_b4.ext E5).other W7 (Or.inl (Nat.ne_of_lt (Nat.lt_of_lt_of_le F_value_b4.lt (Nat.le_of_eq g5.symm))))).other W9 (Or.inl (Nat.ne_of_lt (Nat.lt_of_lt_of_le F_value_b4.lt (Nat.le_of_eq g5.symm)))))
  have fc14 := (((F_value_b4.ext E5).other W7 (Or.inl (Nat.ne_of_lt (Nat.lt_of_lt_of_le F_value_b4.lt (Nat.le_of_eq g5.symm))))).other W9 (Or.inl (Nat.ne_of_lt (Nat.lt_of_lt_of_le F_value_b4.lt (Nat.le_of_eq g5.symm)))))
  obtain ⟨_, _, ⟨T11, L11, k11, n11⟩, -, X11, ⟨Lc11, hQ11, l11, y11, z11⟩, st11⟩ := X9.specialBack hx (y := mn2) rfl hown (mvT hZ (wd9 hw)) (mvT hZ (wd10 hw)) (mvT hZ (wd11 hw)) (by decide) (backOf (W := 1) (rm2_1 l Z a0 hw [] b4 b5 (nar .char p1) (nar .char p2) k5 p10 h9 n0 OL9 V9 pr1 pr2 pr3 pr4 pr5 pr6 pr7 fc12 fc13 g_b4 fc14) hZ (wd11 hw) (wd7 hw) (by decide) (by decide)) (g := (mkF m 45 #[iv (2 : Int32), iv p1, iv p2, iv p3] [(.ref b5), (.ref b4), (.ref b4)])) rfl (by rw [hml]; rfl) (Steps.refl _) (a := b4) (argsL := [(.ref b5)]) (rest := [(.ref b4)]) (lenOf pd_1 rfl) rfl (by show 2 * 0 + _ ≤ _; exact Nat.le_of_eq rfl) (hb hby d1_45) (fun _ _ => ⟨rfl, e9, (by decide : 2 + 2 ≤ _), (by decide : 6 + 6 ≤ _)⟩)
  dsimp only [Pt.U, Pt.locs, Pt.cells, Pt.slots] at X11 l11 y11 z11 st11 hQ11
  subst l11 y11 z11
  obtain ⟨b11_0, kx11_0, rfl, Nq11, K11, u11_0, u11_1, u11_2, u11_3⟩ := hQ11
  have KK11 : Keep h0 T11.heap [] := KK9.trans K11 (allS (Or.inr sz_b4) all0)
  have OL11 := OL9.keep K11 (allS g_b4 all0)
  have g_b11_0 : n0 ≤ b11_0 := Nat.le_trans (Nat.le_trans (Nat.le_of_eq OL9.1.symm) OL9.2.1) u11_0
  have sz_b11_0 : h0.size ≤ b11_0 := Nat.le_trans KK9.1 u11_0
  have N11 := Fr.app N9 Nq11
  have fc15 := (fc12.keep K11)
  obtain ⟨fs, hr, hrun, hended, hW, hsame⟩ := X11.leave (v := some (.ref b4)) (fun h => by rw [Bd.returns] at h; cases h)
  refine ⟨_, _, pre0 _ ?_, hrun, hended, _, _, rfl, ?_, ⟨_, rfl⟩, hW, hsame.mono (by decide) (by decide)⟩
  · show SS p e below s₁ m 0 #[iv (2 : Int32), iv p1, iv p2, iv p3] [] _
    refine XS.iloadN X0.here hx rfl (hb hby d1_0) rfl ?_
    show SS p e below s₁ m 1 #[iv (2 : Int32), iv p1, iv p2, iv p3] [(.int (2 : Int32))] _
    refine XS.ifYes X0.here hx rfl (pc0 := 1) (pc' := 15) rfl (hb hby d1_1) rfl ((if0 _ _).trans (feq (by decide : ¬ ((2 : Int32) = (0 : Int32)))).2) (by decide) (by decide) ?_
    show SS p e below s₁ m 15 #[iv (2 : Int32), iv p1, iv p2, iv p3] [] _
    refine XS.iloadN X0.here hx rfl (hb hby d1_15) rfl ?_
    refine XS.iconst X0.here hx rfl (hb hby d1_16) ?_
    show SS p e below s₁ m 17 #[iv (2 : Int32), iv p1, iv p2, iv p3] [(.int (1 : Int32)), (.int (2 : Int32))] _
    refine XS.icmpYes X0.here hx rfl (pc0 := 17) (pc' := 25) rfl (hb hby d1_17) rfl (feq (by decide : ¬ ((2 : Int32) = (1 : Int32)))).2 (by decide) (by decide) ?_
    show SS p e below s₁ m 25 #[iv (2 : Int32), iv p1, iv p2, iv p3] [] _
    refine XS.iloadN X0.here hx rfl (hb hby d1_25) rfl ?_
    refine XS.iconst X0.here hx rfl (hb hby d1_26) ?_
    show SS p e below s₁ m 27 #[iv (2 : Int32), iv p1, iv p2, iv p3] [(.int (2 : Int32)), (.int (2 : Int32))] _
    refine XS.icmpNo X0.here hx rfl (hb hby d1_27) rfl (teq (rfl : (2 : Int32) = (2 : Int32))).2 ?_
    show SS p e below s₁ m 30 #[iv (2 : Int32), iv p1, iv p2, iv p3] [] _
    refine st4 _ ?_
    show SS p e below T4 m 33 #[iv (2 : Int32), iv p1, iv p2, iv p3] [(.ref b4)] _
    refine XS.dup X4.here hx rfl (hb hby d1_33) rfl rfl ?_
    refine XS.iconst X4.here hx rfl (hb hby d1_34) ?_
    show SS p e below T4 m 35 #[iv (2 : Int32), iv p1, iv p2, iv p3] [(.int (2 : Int32)), (.ref b4), (.ref b4)] _
    refine st5 _ ?_
    show SS p e below T5 m 37 #[iv (2 : Int32), iv p1, iv p2, iv p3] [(.ref b5), (.ref b4), (.ref b4)] _
    refine XS.dup X5.here hx rfl (hb hby d1_37) rfl rfl ?_
    refine XS.iconst X5.here hx rfl (hb hby d1_38) ?_
    refine XS.iloadN X5.here hx rfl (hb hby d1_39) rfl ?_
    show SS p e below T5 m 40 #[iv (2 : Int32), iv p1, iv p2, iv p3] [(.int p1), (.int (0 : Int32)), (.ref b5), (.ref b5), (.ref b4), (.ref b4)] _
    refine st7 _ ?_
    show SS p e below T7 m 41 #[iv (2 : Int32), iv p1, iv p2, iv p3] [(.ref b5), (.ref b4), (.ref b4)] _
    refine XS.dup X7.here hx rfl (hb hby d1_41) rfl rfl ?_
    refine XS.iconst X7.here hx rfl (hb hby d1_42) ?_
    refine XS.iloadN X7.here hx rfl (hb hby d1_43) rfl ?_
    show SS p e below T7 m 44 #[iv (2 : Int32), iv p1, iv p2, iv p3] [(.int p2), (.int (1 : Int32)), (.ref b5), (.ref b5), (.ref b4), (.ref b4)] _
    refine st9 _ ?_
    show SS p e below T9 m 45 #[iv (2 : Int32), iv p1, iv p2, iv p3] [(.ref b5), (.ref b4), (.ref b4)] _
    refine st11.trans ?_
    show SS p e below T11 m 48 #[iv (2 : Int32), iv p1, iv p2, iv p3] [(.ref b4)] _
    jvm_step X11.here [X11.here.top, hx, (hb hby d1_48), X11.method', Bd.returns, Value.isRef, FieldType.isReference]
    first | (intro acts; rw [hr _ acts rfl rfl rfl]) | rw [hr _ _ rfl rfl rfl]
    exact Steps.refl _
  · show Q_rm1_3 Z p1 p2 p3 p10 h0 n0 _ T11.heap _
    exact ⟨b4, b11_0, kx11_0, rfl, N11, KK11, sz_b4, sz_b11_0, (Nat.ne_of_lt (Nat.lt_of_lt_of_le (Nat.lt_of_lt_of_le (Nat.lt_of_lt_of_le (Nat.lt_of_lt_of_le F_value_b4.lt E5.1) (Nat.le_of_eq W7.size.symm)) (Nat.le_of_eq W9.size.symm)) u11_0)), fc15, u11_1, u11_2, u11_3⟩
theorem d6_26 : decode jdk_52_method_21_code 26 = .ok (.aload_n 2, 1) := by decide +kernel
theorem d6_27 : decode jdk_52_method_21_code 27 = .ok (.iload_n 3, 1) := by decide +kernel
theorem d6_28 : decode jdk_52_method_21_code 28 = .ok (.iload 6, 2) := by decide +kernel
theorem d6_30 : decode jdk_52_method_21_code 30 = .ok (.i2b, 1) := by decide +kernel
theorem d6_31 : decode jdk_52_method_21_code 31 = .ok (.bastore, 1) := by decide +kernel
theorem d6_32 : decode jdk_52_method_21_code 32 = .ok (.iinc 1 1, 3) := by decide +kernel
theorem d6_35 : decode jdk_52_method_21_code 35 = .ok (.iinc 3 1, 3) := by decide +kernel
theorem d6_38 : decode jdk_52_method_21_code 38 = .ok (.iinc 5 1, 3) := by decide +kernel
theorem d6_41 : decode jdk_52_method_21_code 41 = .ok (.goto (-38), 3) := by decide +kernel
def Q_rm6_1 (Z : State) (a1 : Addr) (a2 : Addr) (p3 : Int32) (p4 : Int32) (k5 : ClassId) (k7 : ClassId) (h0 : Heap) (n0 : Nat) (v : Option Value) (h : Heap) (L : List Loc) : Prop := v = some (.int (1 : Int32)) ∧ Fr n0 L ∧ Keep h0 h [a2] ∧ Arv Z h a2 k7 .byte (2 : Int32) [(.int ((p3.toInt8.toInt32).toInt8.toInt32)), (.int (0 : Int32))] (.int (0 : Int32))
set_option maxRecDepth 65536 in
set_option maxHeartbeats 40000000 in
theorem rm6_1 (l : Launch) (Z : State) (a0 : Array Value) (hw : ∀ d ∈ tables_1, d.before a0 Z = true) (ws : List Jvm.Cond) (a1 : Addr) (a2 : Addr) (p3 : Int32) (p4 : Int32) (k5 : ClassId) (k7 : ClassId) (h0 : Heap) (n0 : Nat) (OL0 : Old Z n0 h0) (pr1 : Arv Z h0 a1 k5 .char (2 : Int32) [(.int p3), (.int p4)] (.int (0 : Int32))) (pr2 : ¬ ((255 : Int32) < p3)) (pr3 : Arv Z h0 a2 k7 .byte (2 : Int32) [(.int (0 : Int32)), (.int (0 : Int32))] (.int (0 : Int32))) (pr4 : n0 ≤ a2) (pr5 : a1 ≠ a2) (pr6 : (255 : Int32) < p4) :
    MetFree l mn6 (head1 (Jvm.Cond.code mn6 jdk_52_method_21_code 7 (some .int) :: ws) ({ frames := 0, cells := 0, slots := 0, locals := 0 } : Room)) (fun a U => a = #[(.ref a1), (.int (0 : Int32)), (.ref a2), (.int (0 : Int32)), (.int (2 : Int32))] ∧ Z.Warmed39 U.vm ∧ U.heap = h0) (fun _ _ _ _ _ => True) (fun _ U o U' => ∃ v L, o = .returned v ∧ Q_rm6_1 Z a1 a2 p3 p4 k5 k7 h0 n0 v U'.heap L ∧ FrameEnd U o U' L ({ frames := 0, cells := 0, slots := 0, locals := 0 } : Room).cells ({ frames := 0, cells := 0, slots := 0, locals := 0 } : Room).slots) := by
  refine MetFree.of_bodySF (plainFor_of_name pn_6) hisR ?_
  intro p e s m args below meth c s₁ Bd hml0 hP hK
  obtain ⟨rfl, hZ, hh⟩ := hP
  have hx := Bd.exec
  have hby := Bd.bytes
  have hml : c.maxLocals = 7 := hml0
  have hown : s.vm.findClass "java/lang/StringUTF16" = some m.cls := findClass_of_methodNamed Bd.named
  have hnm := (name_of_methodNamed Bd.named Bd.method).1
  have X0 : Stand p l e ({ frames := 0, cells := 0, slots := 0, locals := 0 } : Room) s m #[(.ref a1), (.int (0 : Int32)), (.ref a2), (.int (0 : Int32)), (.int (2 : Int32))] below meth c s₁ [] 0 0 := Stand.of_body Bd
  have e0 : s₁.heap = h0 := by rw [← hh, Bd.state]; rfl
  have N0 := Fr.nil n0
  have pre0 : ∀ t, SS p e below s₁ m 0 #[rv a1, iv (0 : Int32), rv a2, iv (0 : Int32), iv (2 : Int32), .unset, .unset] [] t → Steps p.tables e below (s₁.setTop (entryFrame m #[(.ref a1), (.int (0 : Int32)), (.ref a2), (.int (0 : Int32)), (.int (2 : Int32))] 7)) t := fun t k => castTop (ef_6_17 m a1 a2) k
  obtain ⟨cl6, Ar6, -, S6, -, Hs6, -⟩ := id pr1
  have hin6 : ¬ ((0 : Int32) < 0 ∨ cl6.slots.size ≤ ((0 : Int32)).toNatClampNeg) := inb_of S6 ⟨by decide, by decide⟩
  have hat6 : cl6.slots[((0 : Int32)).toNatClampNeg]? = some (.int p3) := Hs6.at hin6 rfl
  obtain ⟨cl8, Ar8, q8, S8, M8, Hs8, G8⟩ := id pr3
  have hin8 : ¬ ((0 : Int32) < 0 ∨ cl8.slots.size ≤ ((0 : Int32)).toNatClampNeg) := inb_of S8 ⟨by decide, by decide⟩
  obtain ⟨T9, h9, X9, e9, W9, st9⟩ := stB X0 hx hZ e0 Ar8 (j := (0 : Int32)) hin8 (g := (mkF m 31 #[rv a1, iv (0 : Int32), rv a2, iv (0 : Int32), iv (2 : Int32), iv (0 : Int32), iv p3] [(.int (p3.toInt8.toInt32)), (.int (0 : Int32)), (.ref a2)])) rfl rfl (hb hby d6_31)
  have V9 : Arv Z h9 a2 k7 .byte (2 : Int32) [(.int ((p3.toInt8.toInt32).toInt8.toInt32)), (.int (0 : Int32))] (.int (0 : Int32)) := Arv.set Ar8 q8 S8 M8 Hs8 G8 (fits_nar_byte _) W9 0 rfl (Nat.le_of_ble_eq_true rfl)
  have KK9 : Keep h0 h9 [a2] := (Keep.refl h0 [a2]).wr W9 (Or.inl (List.mem_of_getElem? (i := 0) rfl))
  have OL9 := OL0.wr W9 pr4
  have N9 := Fr.snoc X9 N0 pr4
  have fc10 := (pr1.other W9 pr5)
  obtain ⟨cl11, Ar11, -, S11, -, Hs11, -⟩ := id fc10
  have hin11 : ¬ ((1 : Int32) < 0 ∨ cl11.slots.size ≤ ((1 : Int32)).toNatClampNeg) := inb_of S11 ⟨by decide, by decide⟩
  have hat11 : cl11.slots[((1 : Int32)).toNatClampNeg]? = some (.int p4) := Hs11.at hin11 rfl
  obtain ⟨fs, hr, hrun, hended, hW, hsame⟩ := X9.leave (v := some (.int (1 : Int32))) (fun h => by rw [Bd.returns] at h; cases h)
  refine ⟨_, _, pre0 _ ?_, hrun, hended, _, _, rfl, ?_, ⟨_, rfl⟩, hW, hsame.mono (by decide) (by decide)⟩
  · show SS p e below s₁ m 0 #[rv a1, iv (0 : Int32), rv a2, iv (0 : Int32), iv (2 : Int32), .unset, .unset] [] _
    refine XS.iconst X0.here hx rfl (hb hby d6_0) ?_
    refine XS.istore X0.here hx rfl (hb hby d6_1) rfl (l' := #[rv a1, iv (0 : Int32), rv a2, iv (0 : Int32), iv (2 : Int32), iv (0 : Int32), .unset]) rfl ?_
    refine XS.iload X0.here hx rfl (hb hby d6_3) rfl ?_
    refine XS.iload X0.here hx rfl (hb hby d6_5) rfl ?_
    show SS p e below s₁ m 7 #[rv a1, iv (0 : Int32), rv a2, iv (0 : Int32), iv (2 : Int32), iv (0 : Int32), .unset] [(.int (2 : Int32)), (.int (0 : Int32))] _
    refine XS.icmpNo X0.here hx rfl (hb hby d6_7) rfl (tlt (by decide : (0 : Int32) < (2 : Int32))).2.1 ?_
    show SS p e below s₁ m 10 #[rv a1, iv (0 : Int32), rv a2, iv (0 : Int32), iv (2 : Int32), iv (0 : Int32), .unset] [] _
    refine XS.aloadN X0.here hx rfl (hb hby d6_10) rfl rfl ?_
    refine XS.iloadN X0.here hx rfl (hb hby d6_11) rfl ?_
    show SS p e below s₁ m 12 #[rv a1, iv (0 : Int32), rv a2, iv (0 : Int32), iv (2 : Int32), iv (0 : Int32), .unset] [(.int (0 : Int32)), (.ref a1)] _
    refine X0.caload hx (j := (0 : Int32)) (v := (.int p3)) (by rw [e0]; exact Ar6.1) (State.isArrayOf_alike hZ.alike Ar6.2.1) Ar6.2.2 hin6 hat6 (g := (mkF m 12 #[rv a1, iv (0 : Int32), rv a2, iv (0 : Int32), iv (2 : Int32), iv (0 : Int32), .unset] [(.int (0 : Int32)), (.ref a1)])) rfl rfl (hb hby d6_12) _ ?_
    show SS p e below s₁ m 13 #[rv a1, iv (0 : Int32), rv a2, iv (0 : Int32), iv (2 : Int32), iv (0 : Int32), .unset] [(.int p3)] _
    refine XS.istore X0.here hx rfl (hb hby d6_13) rfl (l' := #[rv a1, iv (0 : Int32), rv a2, iv (0 : Int32), iv (2 : Int32), iv (0 : Int32), iv p3]) rfl ?_
    refine XS.iload X0.here hx rfl (hb hby d6_15) rfl ?_
    refine XS.sipush X0.here hx rfl (hb hby d6_17) ?_
    show SS p e below s₁ m 20 #[rv a1, iv (0 : Int32), rv a2, iv (0 : Int32), iv (2 : Int32), iv (0 : Int32), iv p3] [(.int (255 : Int32)), (.int p3)] _
    refine XS.icmpYes X0.here hx rfl (pc0 := 20) (pc' := 26) rfl (hb hby d6_20) rfl (flt pr2).2.2.2 (by decide) (by decide) ?_
    show SS p e below s₁ m 26 #[rv a1, iv (0 : Int32), rv a2, iv (0 : Int32), iv (2 : Int32), iv (0 : Int32), iv p3] [] _
    refine XS.aloadN X0.here hx rfl (hb hby d6_26) rfl rfl ?_
    refine XS.iloadN X0.here hx rfl (hb hby d6_27) rfl ?_
    refine XS.iload X0.here hx rfl (hb hby d6_28) rfl ?_
    show SS p e below s₁ m 30 #[rv a1, iv (0 : Int32), rv a2, iv (0 : Int32), iv (2 : Int32), iv (0 : Int32), iv p3] [(.int p3), (.int (0 : Int32)), (.ref a2)] _
    refine XS.i2b X0.here hx rfl (hb hby d6_30) rfl ?_
    show SS p e below s₁ m 31 #[rv a1, iv (0 : Int32), rv a2, iv (0 : Int32), iv (2 : Int32), iv (0 : Int32), iv p3] [(.int (p3.toInt8.toInt32)), (.int (0 : Int32)), (.ref a2)] _
    refine st9 _ ?_
    show SS p e below T9 m 32 #[rv a1, iv (0 : Int32), rv a2, iv (0 : Int32), iv (2 : Int32), iv (0 : Int32), iv p3] [] _
    refine XS.iinc X9.here hx rfl (hb hby d6_32) rfl (l' := #[rv a1, .val (.int ((0 : Int32) + (1 : Int32))), rv a2, iv (0 : Int32), iv (2 : Int32), iv (0 : Int32), iv p3]) rfl ?_
    show SS p e below T9 m 35 #[rv a1, iv (1 : Int32), rv a2, iv (0 : Int32), iv (2 : Int32), iv (0 : Int32), iv p3] [] _
    refine XS.iinc X9.here hx rfl (hb hby d6_35) rfl (l' := #[rv a1, iv (1 : Int32), rv a2, .val (.int ((0 : Int32) + (1 : Int32))), iv (2 : Int32), iv (0 : Int32), iv p3]) rfl ?_
    show SS p e below T9 m 38 #[rv a1, iv (1 : Int32), rv a2, iv (1 : Int32), iv (2 : Int32), iv (0 : Int32), iv p3] [] _
    refine XS.iinc X9.here hx rfl (hb hby d6_38) rfl (l' := #[rv a1, iv (1 : Int32), rv a2, iv (1 : Int32), iv (2 : Int32), .val (.int ((0 : Int32) + (1 : Int32))), iv p3]) rfl ?_
    show SS p e below T9 m 41 #[rv a1, iv (1 : Int32), rv a2, iv (1 : Int32), iv (2 : Int32), iv (1 : Int32), iv p3] [] _
    refine XS.goto X9.here hx rfl (pc0 := 41) (pc' := 3) rfl (hb hby d6_41) (by decide) (by decide) ?_
    refine XS.iload X9.here hx rfl (hb hby d6_3) rfl ?_
    refine XS.iload X9.here hx rfl (hb hby d6_5) rfl ?_
    show SS p e below T9 m 7 #[rv a1, iv (1 : Int32), rv a2, iv (1 : Int32), iv (2 : Int32), iv (1 : Int32), iv p3] [(.int (2 : Int32)), (.int (1 : Int32))] _
    refine XS.icmpNo X9.here hx rfl (hb hby d6_7) rfl (tlt (by decide : (1 : Int32) < (2 : Int32))).2.1 ?_
    show SS p e below T9 m 10 #[rv a1, iv (1 : Int32), rv a2, iv (1 : Int32), iv (2 : Int32), iv (1 : Int32), iv p3] [] _
    refine XS.aloadN X9.here hx rfl (hb hby d6_10) rfl rfl ?_
    refine XS.iloadN X9.here hx rfl (hb hby d6_11) rfl ?_
    show SS p e below T9 m 12 #[rv a1, iv (1 : Int32), rv a2, iv (1 : Int32), iv (2 : Int32), iv (1 : Int32), iv p3] [(.int (1 : Int32)), (.ref a1)] _
    refine X9.caload hx (j := (1 : Int32)) (v := (.int p4)) (by rw [e9]; exact Ar11.1) (State.isArrayOf_alike hZ.alike Ar11.2.1) Ar11.2.2 hin11 hat11 (g := (mkF m 12 #[rv a1, iv (1 : Int32), rv a2, iv (1 : Int32), iv (2 : Int32), iv (1 : Int32), iv p3] [(.int (1 : Int32)), (.ref a1)])) rfl rfl (hb hby d6_12) _ ?_
    show SS p e below T9 m 13 #[rv a1, iv (1 : Int32), rv a2, iv (1 : Int32), iv (2 : Int32), iv (1 : Int32), iv p3] [(.int p4)] _
    refine XS.istore X9.here hx rfl (hb hby d6_13) rfl (l' := #[rv a1, iv (1 : Int32), rv a2, iv (1 : Int32), iv (2 : Int32), iv (1 : Int32), iv p4]) rfl ?_
    refine XS.iload X9.here hx rfl (hb hby d6_15) rfl ?_
    refine XS.sipush X9.here hx rfl (hb hby d6_17) ?_
    show SS p e below T9 m 20 #[rv a1, iv (1 : Int32), rv a2, iv (1 : Int32), iv (2 : Int32), iv (1 : Int32), iv p4] [(.int (255 : Int32)), (.int p4)] _
    refine XS.icmpNo X9.here hx rfl (hb hby d6_20) rfl (tlt pr6).2.2.2 ?_
    show SS p e below T9 m 23 #[rv a1, iv (1 : Int32), rv a2, iv (1 : Int32), iv (2 : Int32), iv (1 : Int32), iv p4] [] _
    refine XS.iload X9.here hx rfl (hb hby d6_23) rfl ?_
    show SS p e below T9 m 25 #[rv a1, iv (1 : Int32), rv a2, iv (1 : Int32), iv (2 : Int32), iv (1 : Int32), iv p4] [(.int (1 : Int32))] _
    exact retI X9 hx Bd.returns (hb hby d6_25) hr
  · show Q_rm6_1 Z a1 a2 p3 p4 k5 k7 h0 n0 _ T9.heap _
    rw [e9]
    exact ⟨rfl, N9, KK9, V9⟩
theorem ef_18_27 (m : MethodId) (x0 : Addr) : entryFrame m #[(.ref x0), (.int (1 : Int32))] 2 = mkF m 0 #[.val (.ref x0), .val (.int (1 : Int32))] [] := by first | (simp [entryFrame, mkF, argsToLocals, Value.category]; done) | rfl
def Q_rm18_1 (Z : State) (a1 : Addr) (p3 : Int32) (p4 : Int32) (p5 : Int32) (p6 : Int32) (k7 : ClassId) (h0 : Heap) (n0 : Nat) (v : Option Value) (h : Heap) (L : List Loc) : Prop := v = some (.int (nar .char ((((p5 &&& (255 : Int32)) <<< ((0 : Int32) &&& 31)) ||| ((p6 &&& (255 : Int32)) <<< ((8 : Int32) &&& 31))).toUInt32.toUInt16.toUInt32.toInt32))) ∧ Fr n0 L ∧ h = h0
set_option maxRecDepth 65536 in
set_option maxHeartbeats 40000000 in
theorem rm18_1 (l : Launch) (Z : State) (a0 : Array Value) (hw : ∀ d ∈ tables_1, d.before a0 Z = true) (ws : List Jvm.Cond) (a1 : Addr) (p3 : Int32) (p4 : Int32) (p5 : Int32) (p6 : Int32) (k7 : ClassId) (h0 : Heap) (n0 : Nat) (OL0 : Old Z n0 h0) (pr1 : Sta Z Z.heap "java/lang/StringUTF16" "$assertionsDisabled" "Z" (.int (1 : Int32))) (pr2 : Arv Z h0 a1 k7 .byte (4 : Int32) [(.int p3), (.int p4), (.int p5), (.int p6)] (.int (0 : Int32))) (pr3 : Sta Z Z.heap "java/lang/StringUTF16" "HI_BYTE_SHIFT" "I" (.int (0 : Int32))) (pr4 : Sta Z Z.heap "java/lang/StringUTF16" "LO_BYTE_SHIFT" "I" (.int (8 : Int32))) :
    MetFree l mn18 (head1 (Jvm.Cond.code mn18 jdk_52_method_5_code 2 (some .char) :: ws) ({ frames := 0, cells := 0, slots := 0, locals := 0 } : Room)) (fun a U => a = #[(.ref a1), (.int (1 : Int32))] ∧ Z.Warmed39 U.vm ∧ U.heap = h0) (fun _ _ _ _ _ => True) (fun _ U o U' => ∃ v L, o = .returned v ∧ Q_rm18_1 Z a1 p3 p4 p5 p6 k7 h0 n0 v U'.heap L ∧ FrameEnd U o U' L ({ frames := 0, cells := 0, slots := 0, locals := 0 } : Room).cells ({ frames := 0, cells := 0, slots := 0, locals := 0 } : Room).slots) := by
  refine MetFree.of_bodySF (plainFor_of_name pn_6) hisR ?_
  intro p e s m args below meth c s₁ Bd hml0 hP hK
  obtain ⟨rfl, hZ, hh⟩ := hP
  have hx := Bd.exec
  have hby := Bd.bytes
  have hml : c.maxLocals = 2 := hml0
  have hown : s.vm.findClass "java/lang/StringUTF16" = some m.cls := findClass_of_methodNamed Bd.named
  have hnm := (name_of_methodNamed Bd.named Bd.method).1
  have X0 : Stand p l e ({ frames := 0, cells := 0, slots := 0, locals := 0 } : Room) s m #[(.ref a1), (.int (1 : Int32))] below meth c s₁ [] 0 0 := Stand.of_body Bd
  have e0 : s₁.heap = h0 := by rw [← hh, Bd.state]; rfl
  have N0 := Fr.nil n0
  have pre0 : ∀ t, SS p e below s₁ m 0 #[rv a1, iv (1 : Int32)] [] t → Steps p.tables e below (s₁.setTop (entryFrame m #[(.ref a1), (.int (1 : Int32))] 2)) t := fun t k => castTop (ef_18_27 m a1) k
  obtain ⟨T2, X2, e2, st2⟩ := getS2 X0 hx hZ hown (host := "") (Or.inl (wd92 hw)) Via.refl e0 (pr1.ext OL0.2) (g := (mkF m 0 #[rv a1, iv (1 : Int32)] [])) rfl (hb hby d18_0)
  obtain ⟨cl8, Ar8, -, S8, -, Hs8, -⟩ := id pr2
  have hin8 : ¬ ((2 : Int32) < 0 ∨ cl8.slots.size ≤ ((2 : Int32)).toNatClampNeg) := inb_of S8 ⟨by decide, by decide⟩
  have hat8 : cl8.slots[((2 : Int32)).toNatClampNeg]? = some (.int p5) := Hs8.at hin8 rfl
  obtain ⟨T9, X9, e9, st9⟩ := getS2 X2 hx hZ hown (host := "") (Or.inl (wd93 hw)) Via.refl e2 (pr3.ext OL0.2) (g := (mkF m 42 #[rv a1, iv (3 : Int32)] [(.int (p5 &&& (255 : Int32)))])) rfl (hb hby d18_42)
  obtain ⟨cl10, Ar10, -, S10, -, Hs10, -⟩ := id pr2
  have hin10 : ¬ ((3 : Int32) < 0 ∨ cl10.slots.size ≤ ((3 : Int32)).toNatClampNeg) := inb_of S10 ⟨by decide, by decide⟩
  have hat10 : cl10.slots[((3 : Int32)).toNatClampNeg]? = some (.int p6) := Hs10.at hin10 rfl
  obtain ⟨T11, X11, e11, st11⟩ := getS2 X9 hx hZ hown (host := "") (Or.inl (wd94 hw)) Via.refl e9 (pr4.ext OL0.2) (g := (mkF m 53 #[rv a1, iv (3 : Int32)] [(.int (p6 &&& (255 : Int32))), (.int ((p5 &&& (255 : Int32)) <<< ((0 : Int32) &&& 31)))])) rfl (hb hby d18_53)
  obtain ⟨fs, hr, hrun, hended, hW, hsame⟩ := X11.leave (v := some (.int (nar .char ((((p5 &&& (255 : Int32)) <<< ((0 : Int32) &&& 31)) ||| ((p6 &&& (255 : Int32)) <<< ((8 : Int32) &&& 31))).toUInt32.toUInt16.toUInt32.toInt32)))) (fun h => by rw [Bd.returns] at h; cases h)
  refine ⟨_, _, pre0 _ ?_, hrun, hended, _, _, rfl, ?_, ⟨_, rfl⟩, hW, hsame.mono (by decide) (by decide)⟩
  · show SS p e below s₁ m 0 #[rv a1, iv (1 : Int32)] [] _
    refine st2 _ ?_
    show SS p e below T2 m 3 #[rv a1, iv (1 : Int32)] [(.int (1 : Int32))] _
    refine XS.ifYes X2.here hx rfl (pc0 := 3) (pc' := 28) rfl (hb hby d18_3) rfl ((if0 _ _).trans (feq (by decide : ¬ ((1 : Int32) = (0 : Int32)))).2) (by decide) (by decide) ?_
    show SS p e below T2 m 28 #[rv a1, iv (1 : Int32)] [] _
    refine XS.iloadN X2.here hx rfl (hb hby d18_28) rfl ?_
    refine XS.iconst X2.here hx rfl (hb hby d18_29) ?_
    show SS p e below T2 m 30 #[rv a1, iv (1 : Int32)] [(.int (1 : Int32)), (.int (1 : Int32))] _
    refine XS.ishl X2.here hx rfl (hb hby d18_30) rfl ?_
    show SS p e below T2 m 31 #[rv a1, iv (1 : Int32)] [(.int (2 : Int32))] _
    refine XS.istoreN X2.here hx rfl (hb hby d18_31) rfl (l' := #[rv a1, iv (2 : Int32)]) rfl ?_
    refine XS.aloadN X2.here hx rfl (hb hby d18_32) rfl rfl ?_
    refine XS.iloadN X2.here hx rfl (hb hby d18_33) rfl ?_
    show SS p e below T2 m 34 #[rv a1, iv (2 : Int32)] [(.int (2 : Int32)), (.ref a1)] _
    refine XS.iinc X2.here hx rfl (hb hby d18_34) rfl (l' := #[rv a1, .val (.int ((2 : Int32) + (1 : Int32)))]) rfl ?_
    show SS p e below T2 m 37 #[rv a1, iv (3 : Int32)] [(.int (2 : Int32)), (.ref a1)] _
    refine X2.baloadBytes hx (j := (2 : Int32)) (v := (.int p5)) (by rw [e2]; exact Ar8.1) (State.isArrayOf_alike hZ.alike Ar8.2.1) Ar8.2.2 hin8 hat8 (g := (mkF m 37 #[rv a1, iv (3 : Int32)] [(.int (2 : Int32)), (.ref a1)])) rfl rfl (hb hby d18_37) _ ?_
    show SS p e below T2 m 38 #[rv a1, iv (3 : Int32)] [(.int p5)] _
    refine XS.sipush X2.here hx rfl (hb hby d18_38) ?_
    show SS p e below T2 m 41 #[rv a1, iv (3 : Int32)] [(.int (255 : Int32)), (.int p5)] _
    refine XS.iand X2.here hx rfl (hb hby d18_41) rfl ?_
    show SS p e below T2 m 42 #[rv a1, iv (3 : Int32)] [(.int (p5 &&& (255 : Int32)))] _
    refine st9 _ ?_
    show SS p e below T9 m 45 #[rv a1, iv (3 : Int32)] [(.int (0 : Int32)), (.int (p5 &&& (255 : Int32)))] _
    refine XS.ishl X9.here hx rfl (hb hby d18_45) rfl ?_
    show SS p e below T9 m 46 #[rv a1, iv (3 : Int32)] [(.int ((p5 &&& (255 : Int32)) <<< ((0 : Int32) &&& 31)))] _
    refine XS.aloadN X9.here hx rfl (hb hby d18_46) rfl rfl ?_
    refine XS.iloadN X9.here hx rfl (hb hby d18_47) rfl ?_
    show SS p e below T9 m 48 #[rv a1, iv (3 : Int32)] [(.int (3 : Int32)), (.ref a1), (.int ((p5 &&& (255 : Int32)) <<< ((0 : Int32) &&& 31)))] _
    refine X9.baloadBytes hx (j := (3 : Int32)) (v := (.int p6)) (by rw [e9]; exact Ar10.1) (State.isArrayOf_alike hZ.alike Ar10.2.1) Ar10.2.2 hin10 hat10 (g := (mkF m 48 #[rv a1, iv (3 : Int32)] [(.int (3 : Int32)), (.ref a1), (.int ((p5 &&& (255 : Int32)) <<< ((0 : Int32) &&& 31)))])) rfl rfl (hb hby d18_48) _ ?_
    show SS p e below T9 m 49 #[rv a1, iv (3 : Int32)] [(.int p6), (.int ((p5 &&& (255 : Int32)) <<< ((0 : Int32) &&& 31)))] _
    refine XS.sipush X9.here hx rfl (hb hby d18_49) ?_
    show SS p e below T9 m 52 #[rv a1, iv (3 : Int32)] [(.int (255 : Int32)), (.int p6), (.int ((p5 &&& (255 : Int32)) <<< ((0 : Int32) &&& 31)))] _
    refine XS.iand X9.here hx rfl (hb hby d18_52) rfl ?_
    show SS p e below T9 m 53 #[rv a1, iv (3 : Int32)] [(.int (p6 &&& (255 : Int32))), (.int ((p5 &&& (255 : Int32)) <<< ((0 : Int32) &&& 31)))] _
    refine st11 _ ?_
    show SS p e below T11 m 56 #[rv a1, iv (3 : Int32)] [(.int (8 : Int32)), (.int (p6 &&& (255 : Int32))), (.int ((p5 &&& (255 : Int32)) <<< ((0 : Int32) &&& 31)))] _
    refine XS.ishl X11.here hx rfl (hb hby d18_56) rfl ?_
    show SS p e below T11 m 57 #[rv a1, iv (3 : Int32)] [(.int ((p6 &&& (255 : Int32)) <<< ((8 : Int32) &&& 31))), (.int ((p5 &&& (255 : Int32)) <<< ((0 : Int32) &&& 31)))] _
    refine XS.ior X11.here hx rfl (hb hby d18_57) rfl ?_
    show SS p e below T11 m 58 #[rv a1, iv (3 : Int32)] [(.int (((p5 &&& (255 : Int32)) <<< ((0 : Int32) &&& 31)) ||| ((p6 &&& (255 : Int32)) <<< ((8 : Int32) &&& 31))))] _
    refine XS.i2c X11.here hx rfl (hb hby d18_58) rfl ?_
    show SS p e below T11 m 59 #[rv a1, iv (3 : Int32)] [(.int ((((p5 &&& (255 : Int32)) <<< ((0 : Int32) &&& 31)) ||| ((p6 &&& (255 : Int32)) <<< ((8 : Int32) &&& 31))).toUInt32.toUInt16.toUInt32.toInt32))] _
    exact retN X11 hx (t := .char) Bd.returns (by simp) (hb hby d18_59) hr
  · show Q_rm18_1 Z a1 p3 p4 p5 p6 k7 h0 n0 _ T11.heap _
    rw [e11]
    exact ⟨rfl, N0, rfl⟩
def Q_rm5_1 (Z : State) (a1 : Addr) (p3 : Int32) (p4 : Int32) (k5 : ClassId) (h0 : Heap) (n0 : Nat) (v : Option Value) (h : Heap) (L : List Loc) : Prop := ∃ b8_0 : Addr, ∃ kx8_0 : ClassId, v = some (.ref b8_0) ∧ Fr n0 L ∧ Keep h0 h [] ∧ h0.size ≤ b8_0 ∧ Arv Z h b8_0 kx8_0 .byte (4 : Int32) [(.int (((p3 >>> ((0 : Int32) &&& 31)).toInt8.toInt32).toInt8.toInt32)), (.int (((p3 >>> ((8 : Int32) &&& 31)).toInt8.toInt32).toInt8.toInt32)), (.int (((p4 >>> ((0 : Int32) &&& 31)).toInt8.toInt32).toInt8.toInt32)), (.int (((p4 >>> ((8 : Int32) &&& 31)).toInt8.toInt32).toInt8.toInt32))] (.int (0 : Int32))
set_option maxRecDepth 65536 in
set_option maxHeartbeats 40000000 in
theorem rm5_1 (l : Launch) (Z : State) (a0 : Array Value) (hw : ∀ d ∈ tables_1, d.before a0 Z = true) (ws : List Jvm.Cond) (a1 : Addr) (p3 : Int32) (p4 : Int32) (k5 : ClassId) (h0 : Heap) (n0 : Nat) (OL0 : Old Z n0 h0) (pr1 : Arv Z h0 a1 k5 .char (2 : Int32) [(.int p3), (.int p4)] (.int (0 : Int32))) (pr2 : ¬ ((255 : Int32) < p3)) (pr3 : (255 : Int32) < p4) (pr4 : Sta Z Z.heap "java/lang/StringUTF16" "$assertionsDisabled" "Z" (.int (1 : Int32))) (pr5 : Sta Z Z.heap "java/lang/StringUTF16" "HI_BYTE_SHIFT" "I" (.int (0 : Int32))) (pr6 : Sta Z Z.heap "java/lang/StringUTF16" "LO_BYTE_SHIFT" "I" (.int (8 : Int32))) (pr7 : (255 : Int32) < (nar .char (((((((p4 >>> ((0 : Int32) &&& 31)).toInt8.toInt32).toInt8.toInt32) &&& (255 : Int32)) <<< ((0 : Int32) &&& 31)) ||| (((((p4 >>> ((8 : Int32) &&& 31)).toInt8.toInt32).toInt8.toInt32) &&& (255 : Int32)) <<< ((8 : Int32) &&& 31))).toUInt32.toUInt16.toUInt32.toInt32))) :
    MetFree l mn5 (head1 (Jvm.Cond.code mn5 jdk_52_method_16_code 6 (some (.array .byte)) :: ws) ({ frames := 3, cells := 2, slots := 6, locals := 40 } : Room)) (fun a U => a = #[(.ref a1), (.int (0 : Int32)), (.int (2 : Int32))] ∧ Z.Warmed39 U.vm ∧ U.heap = h0) (fun _ _ _ _ _ => True) (fun _ U o U' => ∃ v L, o = .returned v ∧ Q_rm5_1 Z a1 p3 p4 k5 h0 n0 v U'.heap L ∧ FrameEnd U o U' L ({ frames := 3, cells := 2, slots := 6, locals := 40 } : Room).cells ({ frames := 3, cells := 2, slots := 6, locals := 40 } : Room).slots) := by
  refine MetFree.of_bodySF (plainFor_of_name pn_6) hisR ?_
  intro p e s m args below meth c s₁ Bd hml0 hP hK
  obtain ⟨rfl, hZ, hh⟩ := hP
  have hx := Bd.exec
  have hby := Bd.bytes
  have hml : c.maxLocals = 6 := hml0
  have hown : s.vm.findClass "java/lang/StringUTF16" = some m.cls := findClass_of_methodNamed Bd.named
  have hnm := (name_of_methodNamed Bd.named Bd.method).1
  have X0 : Stand p l e ({ frames := 3, cells := 2, slots := 6, locals := 40 } : Room) s m #[(.ref a1), (.int (0 : Int32)), (.int (2 : Int32))] below meth c s₁ [] 0 0 := Stand.of_body Bd
  have e0 : s₁.heap = h0 := by rw [← hh, Bd.state]; rfl
  have N0 := Fr.nil n0
  have pre0 : ∀ t, SS p e below s₁ m 0 #[rv a1, iv (0 : Int32), iv (2 : Int32), .unset, .unset, .unset] [] t → Steps p.tables e below (s₁.setTop (entryFrame m #[(.ref a1), (.int (0 : Int32)), (.int (2 : Int32))] 6)) t := fun t k => castTop (ef_5_23 m a1) k
  obtain ⟨T2, h2, k2, X2, e2, E2, A2, st2⟩ := newP (aty := .byte) X0 hx hZ (wd24 hw) e0 (g := (mkF m 1 #[rv a1, iv (0 : Int32), iv (2 : Int32), .unset, .unset, .unset] [(.int (2 : Int32))])) rfl (hb hby d5_1) rfl (by decide) (cap := 2) (by decide) (by decide) (by decide) (by decide)
  obtain ⟨b2, g2⟩ : ∃ z, z = h0.size := ⟨_, rfl⟩
  rw [← g2] at A2 st2
  have V2 : Arv Z h2 b2 k2 .byte (2 : Int32) [(.int (0 : Int32)), (.int (0 : Int32))] (.int (0 : Int32)) := (Arv.new A2 (by decide)).pad (pad_rep [] (.int (0 : Int32)) 2)
  have g_b2 : n0 ≤ b2 := (Nat.le_trans (Nat.le_trans (Nat.le_of_eq OL0.1.symm) OL0.2.1) (Nat.le_of_eq g2.symm))
  have sz_b2 : h0.size ≤ b2 := (Nat.le_trans (Keep.refl h0 []).1 (Nat.le_of_eq g2.symm))
  have KK2 : Keep h0 h2 [] := (Keep.refl h0 []).ext E2
  have OL2 := OL0.ext E2
  have fc7 := (pr1.ext E2)
  obtain ⟨_, _, ⟨T6, L6, k6, n6⟩, -, X6, ⟨Lc6, hQ6, l6, y6, z6⟩, st6⟩ := Jvm.LawKit.callS X2 hx (y := mn6) hown (mvT hZ (wd25 hw)) (mvT hZ (wd26 hw)) (mvT hZ (wd22 hw)) (mvT hZ (wd27 hw)) (by decide) (backOf (W := 0) (rm6_1 l Z a0 hw [] a1 b2 p3 p4 k5 k2 h2 n0 OL2 fc7 pr2 V2 g_b2 (Nat.ne_of_lt (Nat.lt_of_lt_of_le pr1.lt sz_b2)) pr3) hZ (wd27 hw) (wd22 hw) (by decide) (by decide)) (g := (mkF m 9 #[rv a1, iv (0 : Int32), iv (2 : Int32), rv b2, .unset, .unset] [(.int (2 : Int32)), (.int (0 : Int32)), (.ref b2), (.int (0 : Int32)), (.ref a1)])) rfl (by rw [hml]; rfl) (argsL := [(.ref a1), (.int (0 : Int32)), (.ref b2), (.int (0 : Int32)), (.int (2 : Int32))]) (rest := []) (lenOf pd_14 rfl) rfl (by show 2 * 0 + _ ≤ _; exact Nat.le_of_eq rfl) (hb hby d5_9) (fun _ _ => ⟨rfl, e2, (by decide : 1 + 0 ≤ _), (by decide : 2 + 0 ≤ _)⟩)
  dsimp only [Pt.U, Pt.locs, Pt.cells, Pt.slots] at X6 l6 y6 z6 st6 hQ6
  subst l6 y6 z6
  obtain ⟨rfl, Nq6, K6, u6_0⟩ := hQ6
  have KK6 : Keep h0 T6.heap [] := KK2.trans K6 (allS (Or.inr sz_b2) all0)
  have OL6 := OL2.keep K6 (allS g_b2 all0)
  have N6 := Fr.app N0 Nq6
  have fc9 := (fc7.keep K6 (ninS (Nat.ne_of_lt (Nat.lt_of_lt_of_le pr1.lt sz_b2)) nin0))
  obtain ⟨_, _, ⟨T8, L8, k8, n8⟩, -, X8, ⟨Lc8, hQ8, l8, y8, z8⟩, st8⟩ := Jvm.LawKit.callS X6 hx (y := mn14) hown (mvT hZ (wd79 hw)) (mvT hZ (wd80 hw)) (mvT hZ (wd22 hw)) (mvT hZ (wd81 hw)) (by decide) (backOf (W := 0) (rm14_0 l Z a0 hw [] a1 p3 p4 k5 T6.heap n0 OL6 fc9 pr4 pr5 pr6) hZ (wd81 hw) (wd22 hw) (by decide) (by decide)) (g := (mkF m 23 #[rv a1, iv (0 : Int32), iv (2 : Int32), rv b2, iv (1 : Int32), .unset] [(.int (2 : Int32)), (.int (0 : Int32)), (.ref a1)])) rfl (by rw [hml]; rfl) (argsL := [(.ref a1), (.int (0 : Int32)), (.int (2 : Int32))]) (rest := []) (lenOf pd_17 rfl) rfl (by show 2 * 0 + _ ≤ _; exact Nat.le_of_eq rfl) (hb hby d5_23) (fun _ _ => ⟨rfl, rfl, (by decide : 1 + 1 ≤ _), (by decide : 2 + 4 ≤ _)⟩)
  dsimp only [Pt.U, Pt.locs, Pt.cells, Pt.slots] at X8 l8 y8 z8 st8 hQ8
  subst l8 y8 z8
  obtain ⟨b8_0, kx8_0, rfl, Nq8, K8, u8_0, u8_1⟩ := hQ8
  have KK8 : Keep h0 T8.heap [] := KK6.trans K8 all0
  have OL8 := OL6.keep K8 all0
  have g_b8_0 : n0 ≤ b8_0 := Nat.le_trans (Nat.le_trans (Nat.le_of_eq OL6.1.symm) OL6.2.1) u8_0
  have sz_b8_0 : h0.size ≤ b8_0 := Nat.le_trans KK6.1 u8_0
  have N8 := Fr.app N6 Nq8
  obtain ⟨_, _, ⟨T10, L10, k10, n10⟩, -, X10, ⟨Lc10, hQ10, l10, y10, z10⟩, st10⟩ := Jvm.LawKit.callS X8 hx (y := mn18) hown (mvT hZ (wd95 hw)) (mvT hZ (wd96 hw)) (mvT hZ (wd22 hw)) (mvT hZ (wd97 hw)) (by decide) (backOf (W := 0) (rm18_1 l Z a0 hw [] b8_0 (((p3 >>> ((0 : Int32) &&& 31)).toInt8.toInt32).toInt8.toInt32) (((p3 >>> ((8 : Int32) &&& 31)).toInt8.toInt32).toInt8.toInt32) (((p4 >>> ((0 : Int32) &&& 31)).toInt8.toInt32).toInt8.toInt32) (((p4 >>> ((8 : Int32) &&& 31)).toInt8.toInt32).toInt8.toInt32) kx8_0 T8.heap n0 OL8 pr4 u8_1 pr5 pr6) hZ (wd97 hw) (wd22 hw) (by decide) (by decide)) (g := (mkF m 32 #[rv a1, iv (0 : Int32), iv (2 : Int32), rv b2, iv (1 : Int32), rv b8_0] [(.int (1 : Int32)), (.ref b8_0)])) rfl (by rw [hml]; rfl) (argsL := [(.ref b8_0), (.int (1 : Int32))]) (rest := []) (lenOf pd_18 rfl) rfl (by show 2 * 0 + _ ≤ _; exact Nat.le_of_eq rfl) (hb hby d5_32) (fun _ _ => ⟨rfl, rfl, (by decide : 2 + 0 ≤ _), (by decide : 6 + 0 ≤ _)⟩)
  dsimp only [Pt.U, Pt.locs, Pt.cells, Pt.slots] at X10 l10 y10 z10 st10 hQ10
  subst l10 y10 z10
  obtain ⟨rfl, Nq10, ec10⟩ := hQ10
  have N10 := Fr.app N8 Nq10
  obtain ⟨fs, hr, hrun, hended, hW, hsame⟩ := X10.leave (v := some (.ref b8_0)) (fun h => by rw [Bd.returns] at h; cases h)
  refine ⟨_, _, pre0 _ ?_, hrun, hended, _, _, rfl, ?_, ⟨_, rfl⟩, hW, hsame.mono (by decide) (by decide)⟩
  · show SS p e below s₁ m 0 #[rv a1, iv (0 : Int32), iv (2 : Int32), .unset, .unset, .unset] [] _
    refine XS.iloadN X0.here hx rfl (hb hby d5_0) rfl ?_
    show SS p e below s₁ m 1 #[rv a1, iv (0 : Int32), iv (2 : Int32), .unset, .unset, .unset] [(.int (2 : Int32))] _
    refine st2 _ ?_
    show SS p e below T2 m 3 #[rv a1, iv (0 : Int32), iv (2 : Int32), .unset, .unset, .unset] [(.ref b2)] _
    refine XS.astoreN X2.here hx rfl (hb hby d5_3) rfl rfl (l' := #[rv a1, iv (0 : Int32), iv (2 : Int32), rv b2, .unset, .unset]) rfl ?_
    refine XS.aloadN X2.here hx rfl (hb hby d5_4) rfl rfl ?_
    refine XS.iloadN X2.here hx rfl (hb hby d5_5) rfl ?_
    refine XS.aloadN X2.here hx rfl (hb hby d5_6) rfl rfl ?_
    show SS p e below T2 m 7 #[rv a1, iv (0 : Int32), iv (2 : Int32), rv b2, .unset, .unset] [(.ref b2), (.int (0 : Int32)), (.ref a1)] _
    refine XS.iconst X2.here hx rfl (hb hby d5_7) ?_
    refine XS.iloadN X2.here hx rfl (hb hby d5_8) rfl ?_
    show SS p e below T2 m 9 #[rv a1, iv (0 : Int32), iv (2 : Int32), rv b2, .unset, .unset] [(.int (2 : Int32)), (.int (0 : Int32)), (.ref b2), (.int (0 : Int32)), (.ref a1)] _
    refine st6 _ ?_
    show SS p e below T6 m 12 #[rv a1, iv (0 : Int32), iv (2 : Int32), rv b2, .unset, .unset] [(.int (1 : Int32))] _
    refine XS.istore X6.here hx rfl (hb hby d5_12) rfl (l' := #[rv a1, iv (0 : Int32), iv (2 : Int32), rv b2, iv (1 : Int32), .unset]) rfl ?_
    refine XS.iload X6.here hx rfl (hb hby d5_14) rfl ?_
    refine XS.iloadN X6.here hx rfl (hb hby d5_16) rfl ?_
    show SS p e below T6 m 17 #[rv a1, iv (0 : Int32), iv (2 : Int32), rv b2, iv (1 : Int32), .unset] [(.int (2 : Int32)), (.int (1 : Int32))] _
    refine XS.icmpNo X6.here hx rfl (hb hby d5_17) rfl (feq (by decide : ¬ ((1 : Int32) = (2 : Int32)))).1 ?_
    show SS p e below T6 m 20 #[rv a1, iv (0 : Int32), iv (2 : Int32), rv b2, iv (1 : Int32), .unset] [] _
    refine XS.aloadN X6.here hx rfl (hb hby d5_20) rfl rfl ?_
    refine XS.iloadN X6.here hx rfl (hb hby d5_21) rfl ?_
    refine XS.iloadN X6.here hx rfl (hb hby d5_22) rfl ?_
    show SS p e below T6 m 23 #[rv a1, iv (0 : Int32), iv (2 : Int32), rv b2, iv (1 : Int32), .unset] [(.int (2 : Int32)), (.int (0 : Int32)), (.ref a1)] _
    refine st8 _ ?_
    show SS p e below T8 m 26 #[rv a1, iv (0 : Int32), iv (2 : Int32), rv b2, iv (1 : Int32), .unset] [(.ref b8_0)] _
    refine XS.astore X8.here hx rfl (hb hby d5_26) rfl rfl (l' := #[rv a1, iv (0 : Int32), iv (2 : Int32), rv b2, iv (1 : Int32), rv b8_0]) rfl ?_
    refine XS.aload X8.here hx rfl (hb hby d5_28) rfl rfl ?_
    refine XS.iload X8.here hx rfl (hb hby d5_30) rfl ?_
    show SS p e below T8 m 32 #[rv a1, iv (0 : Int32), iv (2 : Int32), rv b2, iv (1 : Int32), rv b8_0] [(.int (1 : Int32)), (.ref b8_0)] _
    refine st10 _ ?_
    show SS p e below T10 m 35 #[rv a1, iv (0 : Int32), iv (2 : Int32), rv b2, iv (1 : Int32), rv b8_0] [(.int (nar .char (((((((p4 >>> ((0 : Int32) &&& 31)).toInt8.toInt32).toInt8.toInt32) &&& (255 : Int32)) <<< ((0 : Int32) &&& 31)) ||| (((((p4 >>> ((8 : Int32) &&& 31)).toInt8.toInt32).toInt8.toInt32) &&& (255 : Int32)) <<< ((8 : Int32) &&& 31))).toUInt32.toUInt16.toUInt32.toInt32)))] _
    refine XS.sipush X10.here hx rfl (hb hby d5_35) ?_
    show SS p e below T10 m 38 #[rv a1, iv (0 : Int32), iv (2 : Int32), rv b2, iv (1 : Int32), rv b8_0] [(.int (255 : Int32)), (.int (nar .char (((((((p4 >>> ((0 : Int32) &&& 31)).toInt8.toInt32).toInt8.toInt32) &&& (255 : Int32)) <<< ((0 : Int32) &&& 31)) ||| (((((p4 >>> ((8 : Int32) &&& 31)).toInt8.toInt32).toInt8.toInt32) &&& (255 : Int32)) <<< ((8 : Int32) &&& 31))).toUInt32.toUInt16.toUInt32.toInt32)))] _
    refine XS.icmpYes X10.here hx rfl (pc0 := 38) (pc' := 54) rfl (hb hby d5_38) rfl (tlt pr7).2.2.1 (by decide) (by decide) ?_
    show SS p e below T10 m 54 #[rv a1, iv (0 : Int32), iv (2 : Int32), rv b2, iv (1 : Int32), rv b8_0] [] _
    refine XS.aload X10.here hx rfl (hb hby d5_54) rfl rfl ?_
    show SS p e below T10 m 56 #[rv a1, iv (0 : Int32), iv (2 : Int32), rv b2, iv (1 : Int32), rv b8_0] [(.ref b8_0)] _
    jvm_step X10.here [X10.here.top, hx, (hb hby d5_56), X10.method', Bd.returns, Value.isRef, FieldType.isReference]
    first | (intro acts; rw [hr _ acts rfl rfl rfl]) | rw [hr _ _ rfl rfl rfl]
    exact Steps.refl _
  · show Q_rm5_1 Z a1 p3 p4 k5 h0 n0 _ T10.heap _
    rw [ec10]
    exact ⟨b8_0, kx8_0, rfl, N10, KK8, sz_b8_0, u8_1⟩
def Q_rm3_2 (Z : State) (a1 : Addr) (a2 : Addr) (p4 : Int32) (p6 : Int32) (p7 : Int32) (k8 : ClassId) (h0 : Heap) (n0 : Nat) (v : Option Value) (h : Heap) (L : List Loc) : Prop := ∃ b9_0 : Addr, ∃ kx9_0 : ClassId, v = none ∧ Fr n0 L ∧ Keep h0 h [a1] ∧ h0.size ≤ b9_0 ∧ Fld Z h a1 "java/lang/String" "coder" "B" (.int (1 : Int32)) ∧ Fld Z h a1 "java/lang/String" "value" "[B" (.ref b9_0) ∧ Arv Z h b9_0 kx9_0 .byte (4 : Int32) [(.int (((p6 >>> ((0 : Int32) &&& 31)).toInt8.toInt32).toInt8.toInt32)), (.int (((p6 >>> ((8 : Int32) &&& 31)).toInt8.toInt32).toInt8.toInt32)), (.int (((p7 >>> ((0 : Int32) &&& 31)).toInt8.toInt32).toInt8.toInt32)), (.int (((p7 >>> ((8 : Int32) &&& 31)).toInt8.toInt32).toInt8.toInt32))] (.int (0 : Int32))
set_option maxRecDepth 65536 in
set_option maxHeartbeats 40000000 in
theorem rm3_2 (l : Launch) (Z : State) (a0 : Array Value) (hw : ∀ d ∈ tables_1, d.before a0 Z = true) (ws : List Jvm.Cond) (a1 : Addr) (a2 : Addr) (p4 : Int32) (p6 : Int32) (p7 : Int32) (k8 : ClassId) (h0 : Heap) (n0 : Nat) (OL0 : Old Z n0 h0) (pr1 : Sta Z Z.heap "java/lang/String" "COMPACT_STRINGS" "Z" (.int p4)) (pr2 : ¬ (p4 = (0 : Int32))) (pr3 : Arv Z h0 a2 k8 .char (2 : Int32) [(.int p6), (.int p7)] (.int (0 : Int32))) (pr4 : ¬ ((255 : Int32) < p6)) (pr5 : (255 : Int32) < p7) (pr6 : Sta Z Z.heap "java/lang/StringUTF16" "$assertionsDisabled" "Z" (.int (1 : Int32))) (pr7 : Sta Z Z.heap "java/lang/StringUTF16" "HI_BYTE_SHIFT" "I" (.int (0 : Int32))) (pr8 : Sta Z Z.heap "java/lang/StringUTF16" "LO_BYTE_SHIFT" "I" (.int (8 : Int32))) (pr9 : (255 : Int32) < (nar .char (((((((p7 >>> ((0 : Int32) &&& 31)).toInt8.toInt32).toInt8.toInt32) &&& (255 : Int32)) <<< ((0 : Int32) &&& 31)) ||| (((((p7 >>> ((8 : Int32) &&& 31)).toInt8.toInt32).toInt8.toInt32) &&& (255 : Int32)) <<< ((8 : Int32) &&& 31))).toUInt32.toUInt16.toUInt32.toInt32))) (pr10 : Exa Z h0 a1 "java/lang/String") (pr11 : Fld Z h0 a1 "java/lang/String" "coder" "B" (.int (0 : Int32))) (pr12 : n0 ≤ a1) (pr13 : Fld Z h0 a1 "java/lang/String" "value" "[B" .null) :
    MetFree l mn3 (head1 (Jvm.Cond.code mn3 jdk_42_method_149_code 6 none :: ws) ({ frames := 4, cells := 2, slots := 6, locals := 57 } : Room)) (fun a U => a = #[(.ref a1), (.ref a2), (.int (0 : Int32)), (.int (2 : Int32)), .null] ∧ Z.Warmed39 U.vm ∧ U.heap = h0) (fun _ _ _ _ _ => True) (fun _ U o U' => ∃ v L, o = .returned v ∧ Q_rm3_2 Z a1 a2 p4 p6 p7 k8 h0 n0 v U'.heap L ∧ FrameEnd U o U' L ({ frames := 4, cells := 2, slots := 6, locals := 57 } : Room).cells ({ frames := 4, cells := 2, slots := 6, locals := 57 } : Room).slots) := by
  refine MetFree.of_bodySF (plainFor_of_name pn_0) hisR ?_
  intro p e s m args below meth c s₁ Bd hml0 hP hK
  obtain ⟨rfl, hZ, hh⟩ := hP
  have hx := Bd.exec
  have hby := Bd.bytes
  have hml : c.maxLocals = 6 := hml0
  have hown : s.vm.findClass "java/lang/String" = some m.cls := findClass_of_methodNamed Bd.named
  have hnm := (name_of_methodNamed Bd.named Bd.method).1
  have X0 : Stand p l e ({ frames := 4, cells := 2, slots := 6, locals := 57 } : Room) s m #[(.ref a1), (.ref a2), (.int (0 : Int32)), (.int (2 : Int32)), .null] below meth c s₁ [] 0 0 := Stand.of_body Bd
  have e0 : s₁.heap = h0 := by rw [← hh, Bd.state]; rfl
  have N0 := Fr.nil n0
  have pre0 : ∀ t, SS p e below s₁ m 0 #[rv a1, rv a2, iv (0 : Int32), iv (2 : Int32), .val .null, .unset] [] t → Steps p.tables e below (s₁.setTop (entryFrame m #[(.ref a1), (.ref a2), (.int (0 : Int32)), (.int (2 : Int32)), .null] 6)) t := fun t k => castTop (ef_3_25 m a1 a2) k
  obtain ⟨T3, X3, e3, st3⟩ := initO X0 hx hZ hown (wd16 hw) (wd17 hw) (wd18 hw) e0 (g := (mkF m 1 #[rv a1, rv a2, iv (0 : Int32), iv (2 : Int32), .val .null, .unset] [(.ref a1)])) rfl (by rw [hml]; rfl) rfl (hb hby d3_1) (by decide) (W := 0) (by show 2 * 0 + _ ≤ _; exact Nat.le_of_eq rfl) (by decide)
  obtain ⟨T5, X5, e5, st5⟩ := getS2 X3 hx hZ hown (host := "") (Or.inl (wd19 hw)) Via.refl e3 (pr1.ext OL0.2) (g := (mkF m 27 #[rv a1, rv a2, iv (0 : Int32), iv (2 : Int32), .val .null, .unset] [])) rfl (hb hby d3_27)
  obtain ⟨_, _, ⟨T9, L9, k9, n9⟩, -, X9, ⟨Lc9, hQ9, l9, y9, z9⟩, st9⟩ := Jvm.LawKit.callS X5 hx (y := mn5) hown (mvT hZ (wd20 hw)) (mvT hZ (wd21 hw)) (mvT hZ (wd22 hw)) (mvT hZ (wd23 hw)) (by decide) (backOf (W := 0) (rm5_1 l Z a0 hw [] a2 p6 p7 k8 h0 n0 OL0 pr3 pr4 pr5 pr6 pr7 pr8 pr9) hZ (wd23 hw) (wd22 hw) (by decide) (by decide)) (g := (mkF m 36 #[rv a1, rv a2, iv (0 : Int32), iv (2 : Int32), .val .null, .unset] [(.int (2 : Int32)), (.int (0 : Int32)), (.ref a2)])) rfl (by rw [hml]; rfl) (argsL := [(.ref a2), (.int (0 : Int32)), (.int (2 : Int32))]) (rest := []) (lenOf pd_17 rfl) rfl (by show 2 * 0 + _ ≤ _; exact Nat.le_of_eq rfl) (hb hby d3_36) (fun _ _ => ⟨rfl, e5, (by decide : 0 + 2 ≤ _), (by decide : 0 + 6 ≤ _)⟩)
  dsimp only [Pt.U, Pt.locs, Pt.cells, Pt.slots] at X9 l9 y9 z9 st9 hQ9
  subst l9 y9 z9
  obtain ⟨b9_0, kx9_0, rfl, Nq9, K9, u9_0, u9_1⟩ := hQ9
  have KK9 : Keep h0 T9.heap [a1] := (Keep.refl h0 [a1]).trans K9 all0
  have OL9 := OL0.keep K9 all0
  have g_b9_0 : n0 ≤ b9_0 := Nat.le_trans (Nat.le_trans (Nat.le_of_eq OL0.1.symm) OL0.2.1) u9_0
  have sz_b9_0 : h0.size ≤ b9_0 := Nat.le_trans (Keep.refl h0 [a1]).1 u9_0
  have N9 := Fr.app N0 Nq9
  obtain ⟨_, _, ⟨T10, L10, k10, n10⟩, -, X10, ⟨Lc10, hQ10, l10, y10, z10⟩, st10⟩ := Jvm.LawKit.callS X9 hx (y := mn7) hown (mvT hZ (wd28 hw)) (mvT hZ (wd29 hw)) (mvT hZ (wd22 hw)) (mvT hZ (wd30 hw)) (by decide) (backOf (W := 1) (rm7_0 l Z a0 hw [] b9_0 (((p6 >>> ((0 : Int32) &&& 31)).toInt8.toInt32).toInt8.toInt32) (((p6 >>> ((8 : Int32) &&& 31)).toInt8.toInt32).toInt8.toInt32) (((p7 >>> ((0 : Int32) &&& 31)).toInt8.toInt32).toInt8.toInt32) (((p7 >>> ((8 : Int32) &&& 31)).toInt8.toInt32).toInt8.toInt32) kx9_0 T9.heap n0 OL9 u9_1) hZ (wd30 hw) (wd22 hw) (by decide) (by decide)) (g := (mkF m 45 #[rv a1, rv a2, iv (0 : Int32), iv (2 : Int32), .val .null, rv b9_0] [(.int (2 : Int32)), (.ref b9_0), (.ref a1)])) rfl (by rw [hml]; rfl) (argsL := [(.ref b9_0), (.int (2 : Int32))]) (rest := [(.ref a1)]) (lenOf pd_19 rfl) rfl (by show 2 * 0 + _ ≤ _; exact Nat.le_of_eq rfl) (hb hby d3_45) (fun _ _ => ⟨rfl, rfl, (by decide : 2 + 0 ≤ _), (by decide : 6 + 0 ≤ _)⟩)
  dsimp only [Pt.U, Pt.locs, Pt.cells, Pt.slots] at X10 l10 y10 z10 st10 hQ10
  subst l10 y10 z10
  obtain ⟨rfl, Nq10, ec10⟩ := hQ10
  have N10 := Fr.app N9 Nq10
  have fc11 := (pr10.keep K9)
  have fc12 := (pr11.keep K9 nin0)
  obtain ⟨T13, h13, X13, e13, W13, st13⟩ := putFN X10 hx hZ hown (wd31 hw) Via.refl ec10 fc12 fc11 (Or.inr ⟨(wd32 hw), rfl, hnm⟩) (wd6 hw) (ty := .byte) (v' := (.int (1 : Int32))) (by decide) rfl rfl (g := (mkF m 48 #[rv a1, rv a2, iv (0 : Int32), iv (2 : Int32), .val .null, rv b9_0] [(.int (1 : Int32)), (.ref a1)])) rfl rfl (hb hby d3_48)
  have Fw13 := fc12.same W13
  have KK13 : Keep h0 h13 [a1] := KK9.wr W13 (Or.inl (List.mem_of_getElem? (i := 0) rfl))
  have OL13 := OL9.wr W13 pr12
  have N13 := Fr.snoc X13 N10 pr12
  have fc14 := (fc11.wr W13)
  have fc15 := ((pr13.keep K9 nin0).other W13 (Or.inr (slot_ne (Or.inr (wd34 hw)) (Or.inr (wd32 hw)) (by decide) (t := (.array .byte)) (t' := .byte) (by decide) (by decide))))
  obtain ⟨T16, h16, X16, e16, W16, st16⟩ := putF X13 hx hZ hown (host := "") (Or.inl (wd33 hw)) Via.refl e13 fc15 fc14 (Or.inr ⟨(wd34 hw), rfl, hnm⟩) (wd6 hw) (ty := (.array .byte)) (by decide) rfl rfl (g := (mkF m 54 #[rv a1, rv a2, iv (0 : Int32), iv (2 : Int32), .val .null, rv b9_0] [(.ref b9_0), (.ref a1)])) rfl rfl (hb hby d3_54)
  have Fw16 := fc15.same W16
  have KK16 : Keep h0 h16 [a1] := KK13.wr W16 (Or.inl (List.mem_of_getElem? (i := 0) rfl))
  have OL16 := OL13.wr W16 pr12
  have N16 := Fr.snoc X16 N13 pr12
  have fc17 := (Fw13.other W16 (Or.inr (slot_ne (Or.inr (wd32 hw)) (Or.inr (wd34 hw)) (by decide) (t := .byte) (t' := (.array .byte)) (by decide) (by decide))))
  have fc18 := ((u9_1.other W13 (Ne.symm (Nat.ne_of_lt (Nat.lt_of_lt_of_le pr13.lt sz_b9_0)))).other W16 (Ne.symm (Nat.ne_of_lt (Nat.lt_of_lt_of_le pr13.lt sz_b9_0))))
  obtain ⟨fs, hr, hrun, hended, hW, hsame⟩ := X16.leave (v := none) (fun _ => rfl)
  refine ⟨_, _, pre0 _ ?_, hrun, hended, _, _, rfl, ?_, ⟨_, rfl⟩, hW, hsame.mono (by decide) (by decide)⟩
  · show SS p e below s₁ m 0 #[rv a1, rv a2, iv (0 : Int32), iv (2 : Int32), .val .null, .unset] [] _
    refine XS.aloadN X0.here hx rfl (hb hby d3_0) rfl rfl ?_
    show SS p e below s₁ m 1 #[rv a1, rv a2, iv (0 : Int32), iv (2 : Int32), .val .null, .unset] [(.ref a1)] _
    refine st3 _ ?_
    show SS p e below T3 m 4 #[rv a1, rv a2, iv (0 : Int32), iv (2 : Int32), .val .null, .unset] [] _
    refine XS.iloadN X3.here hx rfl (hb hby d3_4) rfl ?_
    show SS p e below T3 m 5 #[rv a1, rv a2, iv (0 : Int32), iv (2 : Int32), .val .null, .unset] [(.int (2 : Int32))] _
    refine XS.ifYes X3.here hx rfl (pc0 := 5) (pc' := 27) rfl (hb hby d3_5) rfl ((if0 _ _).trans (feq (by decide : ¬ ((2 : Int32) = (0 : Int32)))).2) (by decide) (by decide) ?_
    show SS p e below T3 m 27 #[rv a1, rv a2, iv (0 : Int32), iv (2 : Int32), .val .null, .unset] [] _
    refine st5 _ ?_
    show SS p e below T5 m 30 #[rv a1, rv a2, iv (0 : Int32), iv (2 : Int32), .val .null, .unset] [(.int p4)] _
    refine XS.ifNo X5.here hx rfl (hb hby d3_30) rfl ((if0 _ _).trans (feq pr2).1) ?_
    show SS p e below T5 m 33 #[rv a1, rv a2, iv (0 : Int32), iv (2 : Int32), .val .null, .unset] [] _
    refine XS.aloadN X5.here hx rfl (hb hby d3_33) rfl rfl ?_
    refine XS.iloadN X5.here hx rfl (hb hby d3_34) rfl ?_
    refine XS.iloadN X5.here hx rfl (hb hby d3_35) rfl ?_
    show SS p e below T5 m 36 #[rv a1, rv a2, iv (0 : Int32), iv (2 : Int32), .val .null, .unset] [(.int (2 : Int32)), (.int (0 : Int32)), (.ref a2)] _
    refine st9 _ ?_
    show SS p e below T9 m 39 #[rv a1, rv a2, iv (0 : Int32), iv (2 : Int32), .val .null, .unset] [(.ref b9_0)] _
    refine XS.astore X9.here hx rfl (hb hby d3_39) rfl rfl (l' := #[rv a1, rv a2, iv (0 : Int32), iv (2 : Int32), .val .null, rv b9_0]) rfl ?_
    refine XS.aloadN X9.here hx rfl (hb hby d3_41) rfl rfl ?_
    refine XS.aload X9.here hx rfl (hb hby d3_42) rfl rfl ?_
    refine XS.iloadN X9.here hx rfl (hb hby d3_44) rfl ?_
    show SS p e below T9 m 45 #[rv a1, rv a2, iv (0 : Int32), iv (2 : Int32), .val .null, rv b9_0] [(.int (2 : Int32)), (.ref b9_0), (.ref a1)] _
    refine st10 _ ?_
    show SS p e below T10 m 48 #[rv a1, rv a2, iv (0 : Int32), iv (2 : Int32), .val .null, rv b9_0] [(.int (1 : Int32)), (.ref a1)] _
    refine st13 _ ?_
    show SS p e below T13 m 51 #[rv a1, rv a2, iv (0 : Int32), iv (2 : Int32), .val .null, rv b9_0] [] _
    refine XS.aloadN X13.here hx rfl (hb hby d3_51) rfl rfl ?_
    refine XS.aload X13.here hx rfl (hb hby d3_52) rfl rfl ?_
    show SS p e below T13 m 54 #[rv a1, rv a2, iv (0 : Int32), iv (2 : Int32), .val .null, rv b9_0] [(.ref b9_0), (.ref a1)] _
    refine st16 _ ?_
    show SS p e below T16 m 57 #[rv a1, rv a2, iv (0 : Int32), iv (2 : Int32), .val .null, rv b9_0] [] _
    exact X16.returnOut hx Bd.returns (hb hby d3_57) hr
  · show Q_rm3_2 Z a1 a2 p4 p6 p7 k8 h0 n0 _ T16.heap _
    rw [e16]
    exact ⟨b9_0, kx9_0, rfl, N16, KK16, sz_b9_0, fc17, Fw16, fc18⟩
def Q_rm2_2 (Z : State) (a1 : Addr) (a2 : Addr) (p3 : Int32) (p4 : Int32) (k5 : ClassId) (p7 : Int32) (h0 : Heap) (n0 : Nat) (v : Option Value) (h : Heap) (L : List Loc) : Prop := ∃ b8_0 : Addr, ∃ kx8_0 : ClassId, v = none ∧ Fr n0 L ∧ Keep h0 h [a1] ∧ h0.size ≤ b8_0 ∧ Fld Z h a1 "java/lang/String" "coder" "B" (.int (1 : Int32)) ∧ Fld Z h a1 "java/lang/String" "value" "[B" (.ref b8_0) ∧ Arv Z h b8_0 kx8_0 .byte (4 : Int32) [(.int (((p3 >>> ((0 : Int32) &&& 31)).toInt8.toInt32).toInt8.toInt32)), (.int (((p3 >>> ((8 : Int32) &&& 31)).toInt8.toInt32).toInt8.toInt32)), (.int (((p4 >>> ((0 : Int32) &&& 31)).toInt8.toInt32).toInt8.toInt32)), (.int (((p4 >>> ((8 : Int32) &&& 31)).toInt8.toInt32).toInt8.toInt32))] (.int (0 : Int32))
set_option maxRecDepth 65536 in
set_option maxHeartbeats 40000000 in
theorem rm2_2 (l : Launch) (Z : State) (a0 : Array Value) (hw : ∀ d ∈ tables_1, d.before a0 Z = true) (ws : List Jvm.Cond) (a1 : Addr) (a2 : Addr) (p3 : Int32) (p4 : Int32) (k5 : ClassId) (p7 : Int32) (h0 : Heap) (n0 : Nat) (OL0 : Old Z n0 h0) (pr1 : Arv Z h0 a2 k5 .char (2 : Int32) [(.int p3), (.int p4)] (.int (0 : Int32))) (pr2 : Sta Z Z.heap "java/lang/String" "COMPACT_STRINGS" "Z" (.int p7)) (pr3 : ¬ (p7 = (0 : Int32))) (pr4 : ¬ ((255 : Int32) < p3)) (pr5 : (255 : Int32) < p4) (pr6 : Sta Z Z.heap "java/lang/StringUTF16" "$assertionsDisabled" "Z" (.int (1 : Int32))) (pr7 : Sta Z Z.heap "java/lang/StringUTF16" "HI_BYTE_SHIFT" "I" (.int (0 : Int32))) (pr8 : Sta Z Z.heap "java/lang/StringUTF16" "LO_BYTE_SHIFT" "I" (.int (8 : Int32))) (pr9 : (255 : Int32) < (nar .char (((((((p4 >>> ((0 : Int32) &&& 31)).toInt8.toInt32).toInt8.toInt32) &&& (255 : Int32)) <<< ((0 : Int32) &&& 31)) ||| (((((p4 >>> ((8 : Int32) &&& 31)).toInt8.toInt32).toInt8.toInt32) &&& (255 : Int32)) <<< ((8 : Int32) &&& 31))).toUInt32.toUInt16.toUInt32.toInt32))) (pr10 : Exa Z h0 a1 "java/lang/String") (pr11 : Fld Z h0 a1 "java/lang/String" "coder" "B" (.int (0 : Int32))) (pr12 : n0 ≤ a1) (pr13 : Fld Z h0 a1 "java/lang/String" "value" "[B" .null) :
    MetFree l mn2 (head1 (Jvm.Cond.code mn2 jdk_42_method_3_code 2 none :: ws) ({ frames := 5, cells := 2, slots := 6, locals := 74 } : Room)) (fun a U => a = #[(.ref a1), (.ref a2)] ∧ Z.Warmed39 U.vm ∧ U.heap = h0) (fun _ _ _ _ _ => True) (fun _ U o U' => ∃ v L, o = .returned v ∧ Q_rm2_2 Z a1 a2 p3 p4 k5 p7 h0 n0 v U'.heap L ∧ FrameEnd U o U' L ({ frames := 5, cells := 2, slots := 6, locals := 74 } : Room).cells ({ frames := 5, cells := 2, slots := 6, locals := 74 } : Room).slots) := by
  refine MetFree.of_bodySF (plainFor_of_name pn_0) hisR ?_
  intro p e s m args below meth c s₁ Bd hml0 hP hK
  obtain ⟨rfl, hZ, hh⟩ := hP
  have hx := Bd.exec
  have hby := Bd.bytes
  have hml : c.maxLocals = 2 := hml0
  have hown : s.vm.findClass "java/lang/String" = some m.cls := findClass_of_methodNamed Bd.named
  have hnm := (name_of_methodNamed Bd.named Bd.method).1
  have X0 : Stand p l e ({ frames := 5, cells := 2, slots := 6, locals := 74 } : Room) s m #[(.ref a1), (.ref a2)] below meth c s₁ [] 0 0 := Stand.of_body Bd
  have e0 : s₁.heap = h0 := by rw [← hh, Bd.state]; rfl
  have N0 := Fr.nil n0
  have pre0 : ∀ t, SS p e below s₁ m 0 #[rv a1, rv a2] [] t → Steps p.tables e below (s₁.setTop (entryFrame m #[(.ref a1), (.ref a2)] 2)) t := fun t k => castTop (ef_2_1 m a1 a2) k
  obtain ⟨cl6, Ar6, -, Sz6, Nn6, -, -⟩ := id pr1
  obtain ⟨_, _, ⟨T8, L8, k8, n8⟩, -, X8, ⟨Lc8, hQ8, l8, y8, z8⟩, st8⟩ := X0.specialBack hx (y := mn3) rfl hown (mvT hZ (wd12 hw)) (mvT hZ (wd13 hw)) (mvT hZ (wd15 hw)) (by decide) (backOf (W := 0) (rm3_2 l Z a0 hw [] a1 a2 p7 p3 p4 k5 h0 n0 OL0 pr2 pr3 pr1 pr4 pr5 pr6 pr7 pr8 pr9 pr10 pr11 pr12 pr13) hZ (wd15 hw) (wd7 hw) (by decide) (by decide)) (g := (mkF m 6 #[rv a1, rv a2] [.null, (.int (2 : Int32)), (.int (0 : Int32)), (.ref a2), (.ref a1)])) rfl (by rw [hml]; rfl) (Steps.refl _) (a := a1) (argsL := [(.ref a2), (.int (0 : Int32)), (.int (2 : Int32)), .null]) (rest := []) (lenOf pd_0 rfl) rfl (by show 2 * 0 + _ ≤ _; exact Nat.le_of_eq rfl) (hb hby d2_6) (fun _ _ => ⟨rfl, e0, (by decide : 0 + 2 ≤ _), (by decide : 0 + 6 ≤ _)⟩)
  dsimp only [Pt.U, Pt.locs, Pt.cells, Pt.slots] at X8 l8 y8 z8 st8 hQ8
  subst l8 y8 z8
  obtain ⟨b8_0, kx8_0, rfl, Nq8, K8, u8_0, u8_1, u8_2, u8_3⟩ := hQ8
  have KK8 : Keep h0 T8.heap [a1] := (Keep.refl h0 [a1]).trans K8 (allS (Or.inl (List.mem_of_getElem? (i := 0) rfl)) all0)
  have OL8 := OL0.keep K8 (allS pr12 all0)
  have g_b8_0 : n0 ≤ b8_0 := Nat.le_trans (Nat.le_trans (Nat.le_of_eq OL0.1.symm) OL0.2.1) u8_0
  have sz_b8_0 : h0.size ≤ b8_0 := Nat.le_trans (Keep.refl h0 [a1]).1 u8_0
  have N8 := Fr.app N0 Nq8
  obtain ⟨fs, hr, hrun, hended, hW, hsame⟩ := X8.leave (v := none) (fun _ => rfl)
  refine ⟨_, _, pre0 _ ?_, hrun, hended, _, _, rfl, ?_, ⟨_, rfl⟩, hW, hsame.mono (by decide) (by decide)⟩
  · show SS p e below s₁ m 0 #[rv a1, rv a2] [] _
    refine XS.aloadN X0.here hx rfl (hb hby d2_0) rfl rfl ?_
    refine XS.aloadN X0.here hx rfl (hb hby d2_1) rfl rfl ?_
    refine XS.iconst X0.here hx rfl (hb hby d2_2) ?_
    refine XS.aloadN X0.here hx rfl (hb hby d2_3) rfl rfl ?_
    show SS p e below s₁ m 4 #[rv a1, rv a2] [(.ref a2), (.int (0 : Int32)), (.ref a2), (.ref a1)] _
    refine X0.arraylength hx (by rw [e0]; exact Ar6.1) (State.isArrayOf_alike hZ.alike Ar6.2.1) (g := (mkF m 4 #[rv a1, rv a2] [(.ref a2), (.int (0 : Int32)), (.ref a2), (.ref a1)])) rfl rfl (hb hby d2_4) _ ?_
    rw [len_of Sz6 Nn6]
    show SS p e below s₁ m 5 #[rv a1, rv a2] [(.int (2 : Int32)), (.int (0 : Int32)), (.ref a2), (.ref a1)] _
    refine XS.aconstNull X0.here hx rfl (hb hby d2_5) ?_
    show SS p e below s₁ m 6 #[rv a1, rv a2] [.null, (.int (2 : Int32)), (.int (0 : Int32)), (.ref a2), (.ref a1)] _
    refine st8.trans ?_
    show SS p e below T8 m 9 #[rv a1, rv a2] [] _
    exact X8.returnOut hx Bd.returns (hb hby d2_9) hr
  · show Q_rm2_2 Z a1 a2 p3 p4 k5 p7 h0 n0 _ T8.heap _
    exact ⟨b8_0, kx8_0, rfl, N8, KK8, sz_b8_0, u8_1, u8_2, u8_3⟩
def Q_rm1_4 (Z : State) (p1 : Int32) (p2 : Int32) (p3 : Int32) (p10 : Int32) (h0 : Heap) (n0 : Nat) (v : Option Value) (h : Heap) (L : List Loc) : Prop := ∃ b4 : Addr, ∃ b11_0 : Addr, ∃ kx11_0 : ClassId, v = some (.ref b4) ∧ Fr n0 L ∧ Keep h0 h [] ∧ h0.size ≤ b4 ∧ h0.size ≤ b11_0 ∧ b4 ≠ b11_0 ∧ Exa Z h b4 "java/lang/String" ∧ Fld Z h b4 "java/lang/String" "coder" "B" (.int (1 : Int32)) ∧ Fld Z h b4 "java/lang/String" "value" "[B" (.ref b11_0) ∧ Arv Z h b11_0 kx11_0 .byte (4 : Int32) [(.int ((((nar .char p1) >>> ((0 : Int32) &&& 31)).toInt8.toInt32).toInt8.toInt32)), (.int ((((nar .char p1) >>> ((8 : Int32) &&& 31)).toInt8.toInt32).toInt8.toInt32)), (.int ((((nar .char p2) >>> ((0 : Int32) &&& 31)).toInt8.toInt32).toInt8.toInt32)), (.int ((((nar .char p2) >>> ((8 : Int32) &&& 31)).toInt8.toInt32).toInt8.toInt32))] (.int (0 : Int32))
set_option maxRecDepth 65536 in
set_option maxHeartbeats 40000000 in
theorem rm1_4 (l : Launch) (Z : State) (a0 : Array Value) (hw : ∀ d ∈ tables_1, d.before a0 Z = true) (ws : List Jvm.Cond) (p1 : Int32) (p2 : Int32) (p3 : Int32) (p10 : Int32) (h0 : Heap) (n0 : Nat) (OL0 : Old Z n0 h0) (pr1 : Sta Z Z.heap "java/lang/String" "COMPACT_STRINGS" "Z" (.int p10)) (pr2 : ¬ (p10 = (0 : Int32))) (pr3 : ¬ ((255 : Int32) < (nar .char p1))) (pr4 : (255 : Int32) < (nar .char p2)) (pr5 : Sta Z Z.heap "java/lang/StringUTF16" "$assertionsDisabled" "Z" (.int (1 : Int32))) (pr6 : Sta Z Z.heap "java/lang/StringUTF16" "HI_BYTE_SHIFT" "I" (.int (0 : Int32))) (pr7 : Sta Z Z.heap "java/lang/StringUTF16" "LO_BYTE_SHIFT" "I" (.int (8 : Int32))) (pr8 : (255 : Int32) < (nar .char ((((((((nar .char p2) >>> ((0 : Int32) &&& 31)).toInt8.toInt32).toInt8.toInt32) &&& (255 : Int32)) <<< ((0 : Int32) &&& 31)) ||| ((((((nar .char p2) >>> ((8 : Int32) &&& 31)).toInt8.toInt32).toInt8.toInt32) &&& (255 : Int32)) <<< ((8 : Int32) &&& 31))).toUInt32.toUInt16.toUInt32.toInt32))) :
    MetFree l mn1 (head1 (Jvm.Cond.code mn1 method_2_code 4 (some (.object "java/lang/String")) :: ws) ({ frames := 6, cells := 4, slots := 12, locals := 88 } : Room)) (fun a U => a = #[(.int (2 : Int32)), (.int p1), (.int p2), (.int p3)] ∧ Z.Warmed39 U.vm ∧ U.heap = h0) (fun _ _ _ _ _ => True) (fun _ U o U' => ∃ v L, o = .returned v ∧ Q_rm1_4 Z p1 p2 p3 p10 h0 n0 v U'.heap L ∧ FrameEnd U o U' L ({ frames := 6, cells := 4, slots := 12, locals := 88 } : Room).cells ({ frames := 6, cells := 4, slots := 12, locals := 88 } : Room).slots) := by
  refine MetFree.of_bodySF (plainFor_of_name pn_1) hisR ?_
  intro p e s m args below meth c s₁ Bd hml0 hP hK
  obtain ⟨rfl, hZ, hh⟩ := hP
  have hx := Bd.exec
  have hby := Bd.bytes
  have hml : c.maxLocals = 4 := hml0
  have hown : s.vm.findClass "com/example/aeroslice/aeroslice/SrsDefaultsOfPinLaw" = some m.cls := findClass_of_methodNamed Bd.named
  have hnm := (name_of_methodNamed Bd.named Bd.method).1
  have X0 : Stand p l e ({ frames := 6, cells := 4, slots := 12, locals := 88 } : Room) s m #[(.int (2 : Int32)), (.int p1), (.int p2), (.int p3)] below meth c s₁ [] 0 0 := Stand.of_body Bd
  have e0 : s₁.heap = h0 := by rw [← hh, Bd.state]; rfl
  have N0 := Fr.nil n0
  have pre0 : ∀ t, SS p e below s₁ m 0 #[iv (2 : Int32), iv p1, iv p2, iv p3] [] t → Steps p.tables e below (s₁.setTop (entryFrame m #[(.int (2 : Int32)), (.int p1), (.int p2), (.int p3)] 4)) t := fun t k => castTop (ef_1_26 m p1 p2 p3) k
  obtain ⟨T4, h4, X4, e4, E4, A4, D4, -, st4⟩ := newO X0 hx hZ hown (wd5 hw) (wd6 hw) (wd7 hw) e0 (g := (mkF m 30 #[iv (2 : Int32), iv p1, iv p2, iv p3] [])) rfl (hb hby d1_30) (by decide) (by decide)
  obtain ⟨b4, g4⟩ : ∃ z, z = h0.size := ⟨_, rfl⟩
  rw [← g4] at A4 D4 st4
  have g_b4 : n0 ≤ b4 := (Nat.le_trans (Nat.le_trans (Nat.le_of_eq OL0.1.symm) OL0.2.1) (Nat.le_of_eq g4.symm))
  have sz_b4 : h0.size ≤ b4 := (Nat.le_trans (Keep.refl h0 []).1 (Nat.le_of_eq g4.symm))
  have KK4 : Keep h0 h4 [] := (Keep.refl h0 []).ext E4
  have OL4 := OL0.ext E4
  have F_coder_b4 : Fld Z h4 b4 "java/lang/String" "coder" "B" (.int (0 : Int32)) := D4 (Or.inr (wd32 hw)) (ty := .byte) (by decide)
  have F_value_b4 : Fld Z h4 b4 "java/lang/String" "value" "[B" .null := D4 (Or.inr (wd34 hw)) (ty := (.array .byte)) (by decide)
  obtain ⟨T5, h5, k5, X5, e5, E5, A5, st5⟩ := newP (aty := .char) X4 hx hZ (wd8 hw) e4 (g := (mkF m 35 #[iv (2 : Int32), iv p1, iv p2, iv p3] [(.int (2 : Int32)), (.ref b4), (.ref b4)])) rfl (hb hby d1_35) rfl (by decide) (cap := 2) (by decide) (by decide) (by decide) (by decide)
  obtain ⟨b5, g5⟩ : ∃ z, z = h4.size := ⟨_, rfl⟩
  rw [← g5] at A5 st5
  have V5 : Arv Z h5 b5 k5 .char (2 : Int32) [(.int (0 : Int32)), (.int (0 : Int32))] (.int (0 : Int32)) := (Arv.new A5 (by decide)).pad (pad_rep [] (.int (0 : Int32)) 2)
  have g_b5 : n0 ≤ b5 := (Nat.le_trans (Nat.le_trans (Nat.le_of_eq OL4.1.symm) OL4.2.1) (Nat.le_of_eq g5.symm))
  have sz_b5 : h0.size ≤ b5 := (Nat.le_trans KK4.1 (Nat.le_of_eq g5.symm))
  have KK5 : Keep h0 h5 [] := KK4.ext E5
  have OL5 := OL4.ext E5
  obtain ⟨cl6, Ar6, q6, S6, M6, Hs6, G6⟩ := id V5
  have hin6 : ¬ ((0 : Int32) < 0 ∨ cl6.slots.size ≤ ((0 : Int32)).toNatClampNeg) := inb_of S6 ⟨by decide, by decide⟩
  obtain ⟨T7, h7, X7, e7, W7, st7⟩ := stC X5 hx hZ e5 Ar6 (j := (0 : Int32)) hin6 (g := (mkF m 40 #[iv (2 : Int32), iv p1, iv p2, iv p3] [(.int p1), (.int (0 : Int32)), (.ref b5), (.ref b5), (.ref b4), (.ref b4)])) rfl rfl (hb hby d1_40)
  have V7 : Arv Z h7 b5 k5 .char (2 : Int32) [(.int (nar .char p1)), (.int (0 : Int32))] (.int (0 : Int32)) := Arv.set Ar6 q6 S6 M6 Hs6 G6 (fits_nar_char _) W7 0 rfl (Nat.le_of_ble_eq_true rfl)
  have KK7 : Keep h0 h7 [] := KK5.wr W7 (Or.inr sz_b5)
  have OL7 := OL5.wr W7 g_b5
  have N7 := Fr.snoc X7 N0 g_b5
  obtain ⟨cl8, Ar8, q8, S8, M8, Hs8, G8⟩ := id V7
  have hin8 : ¬ ((1 : Int32) < 0 ∨ cl8.slots.size ≤ ((1 : Int32)).toNatClampNeg) := inb_of S8 ⟨by decide, by decide⟩
  obtain ⟨T9, h9, X9, e9, W9, st9⟩ := stC X7 hx hZ e7 Ar8 (j := (1 : Int32)) hin8 (g := (mkF m 44 #[iv (2 : Int32), iv p1, iv p2, iv p3] [(.int p2), (.int (1 : Int32)), (.ref b5), (.ref b5), (.ref b4), (.ref b4)])) rfl rfl (hb hby d1_44)
  have V9 : Arv Z h9 b5 k5 .char (2 : Int32) [(.int (nar .char p1)), (.int (nar .char p2))] (.int (0 : Int32)) := Arv.set Ar8 q8 S8 M8 Hs8 G8 (fits_nar_char _) W9 1 rfl (Nat.le_of_ble_eq_true rfl)
  have KK9 : Keep h0 h9 [] := KK7.wr W9 (Or.inr sz_b5)
  have OL9 := OL7.wr W9 g_b5
  have N9 := Fr.snoc X9 N7 g_b5
  have fc12 := (((A4.ext E5).wr W7).wr W9)
  have fc13 := (((F_coder_b4.ext E5).other W7 (Or.inl (Nat.ne_of_lt (Nat.lt_of_lt_of_le F_value_b4.lt (Nat.le_of_eq g5.symm))))).other W9 (Or.inl (Nat.ne_of_lt (Nat.lt_of_lt_of_le F_value_b4.lt (Nat.le_of_eq g5.symm)))))
  have fc14 := (((F_value_b4.ext E5).other W7 (Or.inl (Nat.ne_of_lt (Nat.lt_of_lt_of_le F_value_b4.lt (Nat.le_of_eq g5.symm))))).other W9 (Or.inl (Nat.ne_of_lt (Nat.lt_of_lt_of_le F_value_b4.lt (Nat.le_of_eq g5.symm)))))
  obtain ⟨_, _, ⟨T11, L11, k11, n11⟩, -, X11, ⟨Lc11, hQ11, l11, y11, z11⟩, st11⟩ := X9.specialBack hx (y := mn2) rfl hown (mvT hZ (wd9 hw)) (mvT hZ (wd10 hw)) (mvT hZ (wd11 hw)) (by decide) (backOf (W := 1) (rm2_2 l Z a0 hw [] b4 b5 (nar .char p1) (nar .char p2) k5 p10 h9 n0 OL9 V9 pr1 pr2 pr3 pr4 pr5 pr6 pr7 pr8 fc12 fc13 g_b4 fc14) hZ (wd11 hw) (wd7 hw) (by decide) (by decide)) (g := (mkF m 45 #[iv (2 : Int32), iv p1, iv p2, iv p3] [(.ref b5), (.ref b4), (.ref b4)])) rfl (by rw [hml]; rfl) (Steps.refl _) (a := b4) (argsL := [(.ref b5)]) (rest := [(.ref b4)]) (lenOf pd_1 rfl) rfl (by show 2 * 0 + _ ≤ _; exact Nat.le_of_eq rfl) (hb hby d1_45) (fun _ _ => ⟨rfl, e9, (by decide : 2 + 2 ≤ _), (by decide : 6 + 6 ≤ _)⟩)
  dsimp only [Pt.U, Pt.locs, Pt.cells, Pt.slots] at X11 l11 y11 z11 st11 hQ11
  subst l11 y11 z11
  obtain ⟨b11_0, kx11_0, rfl, Nq11, K11, u11_0, u11_1, u11_2, u11_3⟩ := hQ11
  have KK11 : Keep h0 T11.heap [] := KK9.trans K11 (allS (Or.inr sz_b4) all0)
  have OL11 := OL9.keep K11 (allS g_b4 all0)
  have g_b11_0 : n0 ≤ b11_0 := Nat.le_trans (Nat.le_trans (Nat.le_of_eq OL9.1.symm) OL9.2.1) u11_0
  have sz_b11_0 : h0.size ≤ b11_0 := Nat.le_trans KK9.1 u11_0
  have N11 := Fr.app N9 Nq11
  have fc15 := (fc12.keep K11)
  obtain ⟨fs, hr, hrun, hended, hW, hsame⟩ := X11.leave (v := some (.ref b4)) (fun h => by rw [Bd.returns] at h; cases h)
  refine ⟨_, _, pre0 _ ?_, hrun, hended, _, _, rfl, ?_, ⟨_, rfl⟩, hW, hsame.mono (by decide) (by decide)⟩
  · show SS p e below s₁ m 0 #[iv (2 : Int32), iv p1, iv p2, iv p3] [] _
    refine XS.iloadN X0.here hx rfl (hb hby d1_0) rfl ?_
    show SS p e below s₁ m 1 #[iv (2 : Int32), iv p1, iv p2, iv p3] [(.int (2 : Int32))] _
    refine XS.ifYes X0.here hx rfl (pc0 := 1) (pc' := 15) rfl (hb hby d1_1) rfl ((if0 _ _).trans (feq (by decide : ¬ ((2 : Int32) = (0 : Int32)))).2) (by decide) (by decide) ?_
    show SS p e below s₁ m 15 #[iv (2 : Int32), iv p1, iv p2, iv p3] [] _
    refine XS.iloadN X0.here hx rfl (hb hby d1_15) rfl ?_
    refine XS.iconst X0.here hx rfl (hb hby d1_16) ?_
    show SS p e below s₁ m 17 #[iv (2 : Int32), iv p1, iv p2, iv p3] [(.int (1 : Int32)), (.int (2 : Int32))] _
    refine XS.icmpYes X0.here hx rfl (pc0 := 17) (pc' := 25) rfl (hb hby d1_17) rfl (feq (by decide : ¬ ((2 : Int32) = (1 : Int32)))).2 (by decide) (by decide) ?_
    show SS p e below s₁ m 25 #[iv (2 : Int32), iv p1, iv p2, iv p3] [] _
    refine XS.iloadN X0.here hx rfl (hb hby d1_25) rfl ?_
    refine XS.iconst X0.here hx rfl (hb hby d1_26) ?_
    show SS p e below s₁ m 27 #[iv (2 : Int32), iv p1, iv p2, iv p3] [(.int (2 : Int32)), (.int (2 : Int32))] _
    refine XS.icmpNo X0.here hx rfl (hb hby d1_27) rfl (teq (rfl : (2 : Int32) = (2 : Int32))).2 ?_
    show SS p e below s₁ m 30 #[iv (2 : Int32), iv p1, iv p2, iv p3] [] _
    refine st4 _ ?_
    show SS p e below T4 m 33 #[iv (2 : Int32), iv p1, iv p2, iv p3] [(.ref b4)] _
    refine XS.dup X4.here hx rfl (hb hby d1_33) rfl rfl ?_
    refine XS.iconst X4.here hx rfl (hb hby d1_34) ?_
    show SS p e below T4 m 35 #[iv (2 : Int32), iv p1, iv p2, iv p3] [(.int (2 : Int32)), (.ref b4), (.ref b4)] _
    refine st5 _ ?_
    show SS p e below T5 m 37 #[iv (2 : Int32), iv p1, iv p2, iv p3] [(.ref b5), (.ref b4), (.ref b4)] _
    refine XS.dup X5.here hx rfl (hb hby d1_37) rfl rfl ?_
    refine XS.iconst X5.here hx rfl (hb hby d1_38) ?_
    refine XS.iloadN X5.here hx rfl (hb hby d1_39) rfl ?_
    show SS p e below T5 m 40 #[iv (2 : Int32), iv p1, iv p2, iv p3] [(.int p1), (.int (0 : Int32)), (.ref b5), (.ref b5), (.ref b4), (.ref b4)] _
    refine st7 _ ?_
    show SS p e below T7 m 41 #[iv (2 : Int32), iv p1, iv p2, iv p3] [(.ref b5), (.ref b4), (.ref b4)] _
    refine XS.dup X7.here hx rfl (hb hby d1_41) rfl rfl ?_
    refine XS.iconst X7.here hx rfl (hb hby d1_42) ?_
    refine XS.iloadN X7.here hx rfl (hb hby d1_43) rfl ?_
    show SS p e below T7 m 44 #[iv (2 : Int32), iv p1, iv p2, iv p3] [(.int p2), (.int (1 : Int32)), (.ref b5), (.ref b5), (.ref b4), (.ref b4)] _
    refine st9 _ ?_
    show SS p e below T9 m 45 #[iv (2 : Int32), iv p1, iv p2, iv p3] [(.ref b5), (.ref b4), (.ref b4)] _
    refine st11.trans ?_
    show SS p e below T11 m 48 #[iv (2 : Int32), iv p1, iv p2, iv p3] [(.ref b4)] _
    jvm_step X11.here [X11.here.top, hx, (hb hby d1_48), X11.method', Bd.returns, Value.isRef, FieldType.isReference]
    first | (intro acts; rw [hr _ acts rfl rfl rfl]) | rw [hr _ _ rfl rfl rfl]
    exact Steps.refl _
  · show Q_rm1_4 Z p1 p2 p3 p10 h0 n0 _ T11.heap _
    exact ⟨b4, b11_0, kx11_0, rfl, N11, KK11, sz_b4, sz_b11_0, (Nat.ne_of_lt (Nat.lt_of_lt_of_le (Nat.lt_of_lt_of_le (Nat.lt_of_lt_of_le (Nat.lt_of_lt_of_le F_value_b4.lt E5.1) (Nat.le_of_eq W7.size.symm)) (Nat.le_of_eq W9.size.symm)) u11_0)), fc15, u11_1, u11_2, u11_3⟩
theorem d6_44 : decode jdk_52_method_21_code 44 = .ok (.iload 4, 2) := by decide +kernel
theorem d6_46 : decode jdk_52_method_21_code 46 = .ok (.ireturn, 1) := by decide +kernel
def Q_rm6_2 (Z : State) (a1 : Addr) (a2 : Addr) (p3 : Int32) (p4 : Int32) (k5 : ClassId) (k7 : ClassId) (h0 : Heap) (n0 : Nat) (v : Option Value) (h : Heap) (L : List Loc) : Prop := v = some (.int (2 : Int32)) ∧ Fr n0 L ∧ Keep h0 h [a2] ∧ Arv Z h a2 k7 .byte (2 : Int32) [(.int ((p3.toInt8.toInt32).toInt8.toInt32)), (.int ((p4.toInt8.toInt32).toInt8.toInt32))] (.int (0 : Int32))
set_option maxRecDepth 65536 in
set_option maxHeartbeats 40000000 in
theorem rm6_2 (l : Launch) (Z : State) (a0 : Array Value) (hw : ∀ d ∈ tables_1, d.before a0 Z = true) (ws : List Jvm.Cond) (a1 : Addr) (a2 : Addr) (p3 : Int32) (p4 : Int32) (k5 : ClassId) (k7 : ClassId) (h0 : Heap) (n0 : Nat) (OL0 : Old Z n0 h0) (pr1 : Arv Z h0 a1 k5 .char (2 : Int32) [(.int p3), (.int p4)] (.int (0 : Int32))) (pr2 : ¬ ((255 : Int32) < p3)) (pr3 : Arv Z h0 a2 k7 .byte (2 : Int32) [(.int (0 : Int32)), (.int (0 : Int32))] (.int (0 : Int32))) (pr4 : n0 ≤ a2) (pr5 : a1 ≠ a2) (pr6 : ¬ ((255 : Int32) < p4)) :
    MetFree l mn6 (head1 (Jvm.Cond.code mn6 jdk_52_method_21_code 7 (some .int) :: ws) ({ frames := 0, cells := 0, slots := 0, locals := 0 } : Room)) (fun a U => a = #[(.ref a1), (.int (0 : Int32)), (.ref a2), (.int (0 : Int32)), (.int (2 : Int32))] ∧ Z.Warmed39 U.vm ∧ U.heap = h0) (fun _ _ _ _ _ => True) (fun _ U o U' => ∃ v L, o = .returned v ∧ Q_rm6_2 Z a1 a2 p3 p4 k5 k7 h0 n0 v U'.heap L ∧ FrameEnd U o U' L ({ frames := 0, cells := 0, slots := 0, locals := 0 } : Room).cells ({ frames := 0, cells := 0, slots := 0, locals := 0 } : Room).slots) := by
  refine MetFree.of_bodySF (plainFor_of_name pn_6) hisR ?_
  intro p e s m args below meth c s₁ Bd hml0 hP hK
  obtain ⟨rfl, hZ, hh⟩ := hP
  have hx := Bd.exec
  have hby := Bd.bytes
  have hml : c.maxLocals = 7 := hml0
  have hown : s.vm.findClass "java/lang/StringUTF16" = some m.cls := findClass_of_methodNamed Bd.named
  have hnm := (name_of_methodNamed Bd.named Bd.method).1
  have X0 : Stand p l e ({ frames := 0, cells := 0, slots := 0, locals := 0 } : Room) s m #[(.ref a1), (.int (0 : Int32)), (.ref a2), (.int (0 : Int32)), (.int (2 : Int32))] below meth c s₁ [] 0 0 := Stand.of_body Bd
  have e0 : s₁.heap = h0 := by rw [← hh, Bd.state]; rfl
  have N0 := Fr.nil n0
  have pre0 : ∀ t, SS p e below s₁ m 0 #[rv a1, iv (0 : Int32), rv a2, iv (0 : Int32), iv (2 : Int32), .unset, .unset] [] t → Steps p.tables e below (s₁.setTop (entryFrame m #[(.ref a1), (.int (0 : Int32)), (.ref a2), (.int (0 : Int32)), (.int (2 : Int32))] 7)) t := fun t k => castTop (ef_6_17 m a1 a2) k
  obtain ⟨cl6, Ar6, -, S6, -, Hs6, -⟩ := id pr1
  have hin6 : ¬ ((0 : Int32) < 0 ∨ cl6.slots.size ≤ ((0 : Int32)).toNatClampNeg) := inb_of S6 ⟨by decide, by decide⟩
  have hat6 : cl6.slots[((0 : Int32)).toNatClampNeg]? = some (.int p3) := Hs6.at hin6 rfl
  obtain ⟨cl8, Ar8, q8, S8, M8, Hs8, G8⟩ := id pr3
  have hin8 : ¬ ((0 : Int32) < 0 ∨ cl8.slots.size ≤ ((0 : Int32)).toNatClampNeg) := inb_of S8 ⟨by decide, by decide⟩
  obtain ⟨T9, h9, X9, e9, W9, st9⟩ := stB X0 hx hZ e0 Ar8 (j := (0 : Int32)) hin8 (g := (mkF m 31 #[rv a1, iv (0 : Int32), rv a2, iv (0 : Int32), iv (2 : Int32), iv (0 : Int32), iv p3] [(.int (p3.toInt8.toInt32)), (.int (0 : Int32)), (.ref a2)])) rfl rfl (hb hby d6_31)
  have V9 : Arv Z h9 a2 k7 .byte (2 : Int32) [(.int ((p3.toInt8.toInt32).toInt8.toInt32)), (.int (0 : Int32))] (.int (0 : Int32)) := Arv.set Ar8 q8 S8 M8 Hs8 G8 (fits_nar_byte _) W9 0 rfl (Nat.le_of_ble_eq_true rfl)
  have KK9 : Keep h0 h9 [a2] := (Keep.refl h0 [a2]).wr W9 (Or.inl (List.mem_of_getElem? (i := 0) rfl))
  have OL9 := OL0.wr W9 pr4
  have N9 := Fr.snoc X9 N0 pr4
  have fc10 := (pr1.other W9 pr5)
  obtain ⟨cl11, Ar11, -, S11, -, Hs11, -⟩ := id fc10
  have hin11 : ¬ ((1 : Int32) < 0 ∨ cl11.slots.size ≤ ((1 : Int32)).toNatClampNeg) := inb_of S11 ⟨by decide, by decide⟩
  have hat11 : cl11.slots[((1 : Int32)).toNatClampNeg]? = some (.int p4) := Hs11.at hin11 rfl
  obtain ⟨cl12, Ar12, q12, S12, M12, Hs12, G12⟩ := id V9
  have hin12 : ¬ ((1 : Int32) < 0 ∨ cl12.slots.size ≤ ((1 : Int32)).toNatClampNeg) := inb_of S12 ⟨by decide, by decide⟩
  obtain ⟨T13, h13, X13, e13, W13, st13⟩ := stB X9 hx hZ e9 Ar12 (j := (1 : Int32)) hin12 (g := (mkF m 31 #[rv a1, iv (1 : Int32), rv a2, iv (1 : Int32), iv (2 : Int32), iv (1 : Int32), iv p4] [(.int (p4.toInt8.toInt32)), (.int (1 : Int32)), (.ref a2)])) rfl rfl (hb hby d6_31)
  have V13 : Arv Z h13 a2 k7 .byte (2 : Int32) [(.int ((p3.toInt8.toInt32).toInt8.toInt32)), (.int ((p4.toInt8.toInt32).toInt8.toInt32))] (.int (0 : Int32)) := Arv.set Ar12 q12 S12 M12 Hs12 G12 (fits_nar_byte _) W13 1 rfl (Nat.le_of_ble_eq_true rfl)
  have KK13 : Keep h0 h13 [a2] := KK9.wr W13 (Or.inl (List.mem_of_getElem? (i := 0) rfl))
  have OL13 := OL9.wr W13 pr4
  have N13 := Fr.snoc X13 N9 pr4
  obtain ⟨fs, hr, hrun, hended, hW, hsame⟩ := X13.leave (v := some (.int (2 : Int32))) (fun h => by rw [Bd.returns] at h; cases h)
  refine ⟨_, _, pre0 _ ?_, hrun, hended, _, _, rfl, ?_, ⟨_, rfl⟩, hW, hsame.mono (by decide) (by decide)⟩
  · show SS p e below s₁ m 0 #[rv a1, iv (0 : Int32), rv a2, iv (0 : Int32), iv (2 : Int32), .unset, .unset] [] _
    refine XS.iconst X0.here hx rfl (hb hby d6_0) ?_
    refine XS.istore X0.here hx rfl (hb hby d6_1) rfl (l' := #[rv a1, iv (0 : Int32), rv a2, iv (0 : Int32), iv (2 : Int32), iv (0 : Int32), .unset]) rfl ?_
    refine XS.iload X0.here hx rfl (hb hby d6_3) rfl ?_
    refine XS.iload X0.here hx rfl (hb hby d6_5) rfl ?_
    show SS p e below s₁ m 7 #[rv a1, iv (0 : Int32), rv a2, iv (0 : Int32), iv (2 : Int32), iv (0 : Int32), .unset] [(.int (2 : Int32)), (.int (0 : Int32))] _
    refine XS.icmpNo X0.here hx rfl (hb hby d6_7) rfl (tlt (by decide : (0 : Int32) < (2 : Int32))).2.1 ?_
    show SS p e below s₁ m 10 #[rv a1, iv (0 : Int32), rv a2, iv (0 : Int32), iv (2 : Int32), iv (0 : Int32), .unset] [] _
    refine XS.aloadN X0.here hx rfl (hb hby d6_10) rfl rfl ?_
    refine XS.iloadN X0.here hx rfl (hb hby d6_11) rfl ?_
    show SS p e below s₁ m 12 #[rv a1, iv (0 : Int32), rv a2, iv (0 : Int32), iv (2 : Int32), iv (0 : Int32), .unset] [(.int (0 : Int32)), (.ref a1)] _
    refine X0.caload hx (j := (0 : Int32)) (v := (.int p3)) (by rw [e0]; exact Ar6.1) (State.isArrayOf_alike hZ.alike Ar6.2.1) Ar6.2.2 hin6 hat6 (g := (mkF m 12 #[rv a1, iv (0 : Int32), rv a2, iv (0 : Int32), iv (2 : Int32), iv (0 : Int32), .unset] [(.int (0 : Int32)), (.ref a1)])) rfl rfl (hb hby d6_12) _ ?_
    show SS p e below s₁ m 13 #[rv a1, iv (0 : Int32), rv a2, iv (0 : Int32), iv (2 : Int32), iv (0 : Int32), .unset] [(.int p3)] _
    refine XS.istore X0.here hx rfl (hb hby d6_13) rfl (l' := #[rv a1, iv (0 : Int32), rv a2, iv (0 : Int32), iv (2 : Int32), iv (0 : Int32), iv p3]) rfl ?_
    refine XS.iload X0.here hx rfl (hb hby d6_15) rfl ?_
    refine XS.sipush X0.here hx rfl (hb hby d6_17) ?_
    show SS p e below s₁ m 20 #[rv a1, iv (0 : Int32), rv a2, iv (0 : Int32), iv (2 : Int32), iv (0 : Int32), iv p3] [(.int (255 : Int32)), (.int p3)] _
    refine XS.icmpYes X0.here hx rfl (pc0 := 20) (pc' := 26) rfl (hb hby d6_20) rfl (flt pr2).2.2.2 (by decide) (by decide) ?_
    show SS p e below s₁ m 26 #[rv a1, iv (0 : Int32), rv a2, iv (0 : Int32), iv (2 : Int32), iv (0 : Int32), iv p3] [] _
    refine XS.aloadN X0.here hx rfl (hb hby d6_26) rfl rfl ?_
    refine XS.iloadN X0.here hx rfl (hb hby d6_27) rfl ?_
    refine XS.iload X0.here hx rfl (hb hby d6_28) rfl ?_
    show SS p e below s₁ m 30 #[rv a1, iv (0 : Int32), rv a2, iv (0 : Int32), iv (2 : Int32), iv (0 : Int32), iv p3] [(.int p3), (.int (0 : Int32)), (.ref a2)] _
    refine XS.i2b X0.here hx rfl (hb hby d6_30) rfl ?_
    show SS p e below s₁ m 31 #[rv a1, iv (0 : Int32), rv a2, iv (0 : Int32), iv (2 : Int32), iv (0 : Int32), iv p3] [(.int (p3.toInt8.toInt32)), (.int (0 : Int32)), (.ref a2)] _
    refine st9 _ ?_
    show SS p e below T9 m 32 #[rv a1, iv (0 : Int32), rv a2, iv (0 : Int32), iv (2 : Int32), iv (0 : Int32), iv p3] [] _
    refine XS.iinc X9.here hx rfl (hb hby d6_32) rfl (l' := #[rv a1, .val (.int ((0 : Int32) + (1 : Int32))), rv a2, iv (0 : Int32), iv (2 : Int32), iv (0 : Int32), iv p3]) rfl ?_
    show SS p e below T9 m 35 #[rv a1, iv (1 : Int32), rv a2, iv (0 : Int32), iv (2 : Int32), iv (0 : Int32), iv p3] [] _
    refine XS.iinc X9.here hx rfl (hb hby d6_35) rfl (l' := #[rv a1, iv (1 : Int32), rv a2, .val (.int ((0 : Int32) + (1 : Int32))), iv (2 : Int32), iv (0 : Int32), iv p3]) rfl ?_
    show SS p e below T9 m 38 #[rv a1, iv (1 : Int32), rv a2, iv (1 : Int32), iv (2 : Int32), iv (0 : Int32), iv p3] [] _
    refine XS.iinc X9.here hx rfl (hb hby d6_38) rfl (l' := #[rv a1, iv (1 : Int32), rv a2, iv (1 : Int32), iv (2 : Int32), .val (.int ((0 : Int32) + (1 : Int32))), iv p3]) rfl ?_
    show SS p e below T9 m 41 #[rv a1, iv (1 : Int32), rv a2, iv (1 : Int32), iv (2 : Int32), iv (1 : Int32), iv p3] [] _
    refine XS.goto X9.here hx rfl (pc0 := 41) (pc' := 3) rfl (hb hby d6_41) (by decide) (by decide) ?_
    refine XS.iload X9.here hx rfl (hb hby d6_3) rfl ?_
    refine XS.iload X9.here hx rfl (hb hby d6_5) rfl ?_
    show SS p e below T9 m 7 #[rv a1, iv (1 : Int32), rv a2, iv (1 : Int32), iv (2 : Int32), iv (1 : Int32), iv p3] [(.int (2 : Int32)), (.int (1 : Int32))] _
    refine XS.icmpNo X9.here hx rfl (hb hby d6_7) rfl (tlt (by decide : (1 : Int32) < (2 : Int32))).2.1 ?_
    show SS p e below T9 m 10 #[rv a1, iv (1 : Int32), rv a2, iv (1 : Int32), iv (2 : Int32), iv (1 : Int32), iv p3] [] _
    refine XS.aloadN X9.here hx rfl (hb hby d6_10) rfl rfl ?_
    refine XS.iloadN X9.here hx rfl (hb hby d6_11) rfl ?_
    show SS p e below T9 m 12 #[rv a1, iv (1 : Int32), rv a2, iv (1 : Int32), iv (2 : Int32), iv (1 : Int32), iv p3] [(.int (1 : Int32)), (.ref a1)] _
    refine X9.caload hx (j := (1 : Int32)) (v := (.int p4)) (by rw [e9]; exact Ar11.1) (State.isArrayOf_alike hZ.alike Ar11.2.1) Ar11.2.2 hin11 hat11 (g := (mkF m 12 #[rv a1, iv (1 : Int32), rv a2, iv (1 : Int32), iv (2 : Int32), iv (1 : Int32), iv p3] [(.int (1 : Int32)), (.ref a1)])) rfl rfl (hb hby d6_12) _ ?_
    show SS p e below T9 m 13 #[rv a1, iv (1 : Int32), rv a2, iv (1 : Int32), iv (2 : Int32), iv (1 : Int32), iv p3] [(.int p4)] _
    refine XS.istore X9.here hx rfl (hb hby d6_13) rfl (l' := #[rv a1, iv (1 : Int32), rv a2, iv (1 : Int32), iv (2 : Int32), iv (1 : Int32), iv p4]) rfl ?_
    refine XS.iload X9.here hx rfl (hb hby d6_15) rfl ?_
    refine XS.sipush X9.here hx rfl (hb hby d6_17) ?_
    show SS p e below T9 m 20 #[rv a1, iv (1 : Int32), rv a2, iv (1 : Int32), iv (2 : Int32), iv (1 : Int32), iv p4] [(.int (255 : Int32)), (.int p4)] _
    refine XS.icmpYes X9.here hx rfl (pc0 := 20) (pc' := 26) rfl (hb hby d6_20) rfl (flt pr6).2.2.2 (by decide) (by decide) ?_
    show SS p e below T9 m 26 #[rv a1, iv (1 : Int32), rv a2, iv (1 : Int32), iv (2 : Int32), iv (1 : Int32), iv p4] [] _
    refine XS.aloadN X9.here hx rfl (hb hby d6_26) rfl rfl ?_
    refine XS.iloadN X9.here hx rfl (hb hby d6_27) rfl ?_
    refine XS.iload X9.here hx rfl (hb hby d6_28) rfl ?_
    show SS p e below T9 m 30 #[rv a1, iv (1 : Int32), rv a2, iv (1 : Int32), iv (2 : Int32), iv (1 : Int32), iv p4] [(.int p4), (.int (1 : Int32)), (.ref a2)] _
    refine XS.i2b X9.here hx rfl (hb hby d6_30) rfl ?_
    show SS p e below T9 m 31 #[rv a1, iv (1 : Int32), rv a2, iv (1 : Int32), iv (2 : Int32), iv (1 : Int32), iv p4] [(.int (p4.toInt8.toInt32)), (.int (1 : Int32)), (.ref a2)] _
    refine st13 _ ?_
    show SS p e below T13 m 32 #[rv a1, iv (1 : Int32), rv a2, iv (1 : Int32), iv (2 : Int32), iv (1 : Int32), iv p4] [] _
    refine XS.iinc X13.here hx rfl (hb hby d6_32) rfl (l' := #[rv a1, .val (.int ((1 : Int32) + (1 : Int32))), rv a2, iv (1 : Int32), iv (2 : Int32), iv (1 : Int32), iv p4]) rfl ?_
    show SS p e below T13 m 35 #[rv a1, iv (2 : Int32), rv a2, iv (1 : Int32), iv (2 : Int32), iv (1 : Int32), iv p4] [] _
    refine XS.iinc X13.here hx rfl (hb hby d6_35) rfl (l' := #[rv a1, iv (2 : Int32), rv a2, .val (.int ((1 : Int32) + (1 : Int32))), iv (2 : Int32), iv (1 : Int32), iv p4]) rfl ?_
    show SS p e below T13 m 38 #[rv a1, iv (2 : Int32), rv a2, iv (2 : Int32), iv (2 : Int32), iv (1 : Int32), iv p4] [] _
    refine XS.iinc X13.here hx rfl (hb hby d6_38) rfl (l' := #[rv a1, iv (2 : Int32), rv a2, iv (2 : Int32), iv (2 : Int32), .val (.int ((1 : Int32) + (1 : Int32))), iv p4]) rfl ?_
    show SS p e below T13 m 41 #[rv a1, iv (2 : Int32), rv a2, iv (2 : Int32), iv (2 : Int32), iv (2 : Int32), iv p4] [] _
    refine XS.goto X13.here hx rfl (pc0 := 41) (pc' := 3) rfl (hb hby d6_41) (by decide) (by decide) ?_
    refine XS.iload X13.here hx rfl (hb hby d6_3) rfl ?_
    refine XS.iload X13.here hx rfl (hb hby d6_5) rfl ?_
    show SS p e below T13 m 7 #[rv a1, iv (2 : Int32), rv a2, iv (2 : Int32), iv (2 : Int32), iv (2 : Int32), iv p4] [(.int (2 : Int32)), (.int (2 : Int32))] _
    refine XS.icmpYes X13.here hx rfl (pc0 := 7) (pc' := 44) rfl (hb hby d6_7) rfl (flt (by decide : ¬ ((2 : Int32) < (2 : Int32)))).2.1 (by decide) (by decide) ?_
    show SS p e below T13 m 44 #[rv a1, iv (2 : Int32), rv a2, iv (2 : Int32), iv (2 : Int32), iv (2 : Int32), iv p4] [] _
    refine XS.iload X13.here hx rfl (hb hby d6_44) rfl ?_
    show SS p e below T13 m 46 #[rv a1, iv (2 : Int32), rv a2, iv (2 : Int32), iv (2 : Int32), iv (2 : Int32), iv p4] [(.int (2 : Int32))] _
    exact retI X13 hx Bd.returns (hb hby d6_46) hr
  · show Q_rm6_2 Z a1 a2 p3 p4 k5 k7 h0 n0 _ T13.heap _
    rw [e13]
    exact ⟨rfl, N13, KK13, V13⟩
theorem d5_57 : decode jdk_52_method_16_code 57 = .ok (.aload_n 3, 1) := by decide +kernel
theorem d5_58 : decode jdk_52_method_16_code 58 = .ok (.areturn, 1) := by decide +kernel
def Q_rm5_2 (Z : State) (a1 : Addr) (p3 : Int32) (p4 : Int32) (k5 : ClassId) (h0 : Heap) (n0 : Nat) (v : Option Value) (h : Heap) (L : List Loc) : Prop := ∃ b2 : Addr, ∃ k2 : ClassId, v = some (.ref b2) ∧ Fr n0 L ∧ Keep h0 h [] ∧ h0.size ≤ b2 ∧ Arv Z h b2 k2 .byte (2 : Int32) [(.int ((p3.toInt8.toInt32).toInt8.toInt32)), (.int ((p4.toInt8.toInt32).toInt8.toInt32))] (.int (0 : Int32))
set_option maxRecDepth 65536 in
set_option maxHeartbeats 40000000 in
theorem rm5_2 (l : Launch) (Z : State) (a0 : Array Value) (hw : ∀ d ∈ tables_1, d.before a0 Z = true) (ws : List Jvm.Cond) (a1 : Addr) (p3 : Int32) (p4 : Int32) (k5 : ClassId) (h0 : Heap) (n0 : Nat) (OL0 : Old Z n0 h0) (pr1 : Arv Z h0 a1 k5 .char (2 : Int32) [(.int p3), (.int p4)] (.int (0 : Int32))) (pr2 : ¬ ((255 : Int32) < p3)) (pr3 : ¬ ((255 : Int32) < p4)) :
    MetFree l mn5 (head1 (Jvm.Cond.code mn5 jdk_52_method_16_code 6 (some (.array .byte)) :: ws) ({ frames := 1, cells := 1, slots := 2, locals := 18 } : Room)) (fun a U => a = #[(.ref a1), (.int (0 : Int32)), (.int (2 : Int32))] ∧ Z.Warmed39 U.vm ∧ U.heap = h0) (fun _ _ _ _ _ => True) (fun _ U o U' => ∃ v L, o = .returned v ∧ Q_rm5_2 Z a1 p3 p4 k5 h0 n0 v U'.heap L ∧ FrameEnd U o U' L ({ frames := 1, cells := 1, slots := 2, locals := 18 } : Room).cells ({ frames := 1, cells := 1, slots := 2, locals := 18 } : Room).slots) := by
  refine MetFree.of_bodySF (plainFor_of_name pn_6) hisR ?_
  intro p e s m args below meth c s₁ Bd hml0 hP hK
  obtain ⟨rfl, hZ, hh⟩ := hP
  have hx := Bd.exec
  have hby := Bd.bytes
  have hml : c.maxLocals = 6 := hml0
  have hown : s.vm.findClass "java/lang/StringUTF16" = some m.cls := findClass_of_methodNamed Bd.named
  have hnm := (name_of_methodNamed Bd.named Bd.method).1
  have X0 : Stand p l e ({ frames := 1, cells := 1, slots := 2, locals := 18 } : Room) s m #[(.ref a1), (.int (0 : Int32)), (.int (2 : Int32))] below meth c s₁ [] 0 0 := Stand.of_body Bd
  have e0 : s₁.heap = h0 := by rw [← hh, Bd.state]; rfl
  have N0 := Fr.nil n0
  have pre0 : ∀ t, SS p e below s₁ m 0 #[rv a1, iv (0 : Int32), iv (2 : Int32), .unset, .unset, .unset] [] t → Steps p.tables e below (s₁.setTop (entryFrame m #[(.ref a1), (.int (0 : Int32)), (.int (2 : Int32))] 6)) t := fun t k => castTop (ef_5_23 m a1) k
  obtain ⟨T2, h2, k2, X2, e2, E2, A2, st2⟩ := newP (aty := .byte) X0 hx hZ (wd24 hw) e0 (g := (mkF m 1 #[rv a1, iv (0 : Int32), iv (2 : Int32), .unset, .unset, .unset] [(.int (2 : Int32))])) rfl (hb hby d5_1) rfl (by decide) (cap := 2) (by decide) (by decide) (by decide) (by decide)
  obtain ⟨b2, g2⟩ : ∃ z, z = h0.size := ⟨_, rfl⟩
  rw [← g2] at A2 st2
  have V2 : Arv Z h2 b2 k2 .byte (2 : Int32) [(.int (0 : Int32)), (.int (0 : Int32))] (.int (0 : Int32)) := (Arv.new A2 (by decide)).pad (pad_rep [] (.int (0 : Int32)) 2)
  have g_b2 : n0 ≤ b2 := (Nat.le_trans (Nat.le_trans (Nat.le_of_eq OL0.1.symm) OL0.2.1) (Nat.le_of_eq g2.symm))
  have sz_b2 : h0.size ≤ b2 := (Nat.le_trans (Keep.refl h0 []).1 (Nat.le_of_eq g2.symm))
  have KK2 : Keep h0 h2 [] := (Keep.refl h0 []).ext E2
  have OL2 := OL0.ext E2
  have fc7 := (pr1.ext E2)
  obtain ⟨_, _, ⟨T6, L6, k6, n6⟩, -, X6, ⟨Lc6, hQ6, l6, y6, z6⟩, st6⟩ := Jvm.LawKit.callS X2 hx (y := mn6) hown (mvT hZ (wd25 hw)) (mvT hZ (wd26 hw)) (mvT hZ (wd22 hw)) (mvT hZ (wd27 hw)) (by decide) (backOf (W := 0) (rm6_2 l Z a0 hw [] a1 b2 p3 p4 k5 k2 h2 n0 OL2 fc7 pr2 V2 g_b2 (Nat.ne_of_lt (Nat.lt_of_lt_of_le pr1.lt sz_b2)) pr3) hZ (wd27 hw) (wd22 hw) (by decide) (by decide)) (g := (mkF m 9 #[rv a1, iv (0 : Int32), iv (2 : Int32), rv b2, .unset, .unset] [(.int (2 : Int32)), (.int (0 : Int32)), (.ref b2), (.int (0 : Int32)), (.ref a1)])) rfl (by rw [hml]; rfl) (argsL := [(.ref a1), (.int (0 : Int32)), (.ref b2), (.int (0 : Int32)), (.int (2 : Int32))]) (rest := []) (lenOf pd_14 rfl) rfl (by show 2 * 0 + _ ≤ _; exact Nat.le_of_eq rfl) (hb hby d5_9) (fun _ _ => ⟨rfl, e2, (by decide : 1 + 0 ≤ _), (by decide : 2 + 0 ≤ _)⟩)
  dsimp only [Pt.U, Pt.locs, Pt.cells, Pt.slots] at X6 l6 y6 z6 st6 hQ6
  subst l6 y6 z6
  obtain ⟨rfl, Nq6, K6, u6_0⟩ := hQ6
  have KK6 : Keep h0 T6.heap [] := KK2.trans K6 (allS (Or.inr sz_b2) all0)
  have OL6 := OL2.keep K6 (allS g_b2 all0)
  have N6 := Fr.app N0 Nq6
  obtain ⟨fs, hr, hrun, hended, hW, hsame⟩ := X6.leave (v := some (.ref b2)) (fun h => by rw [Bd.returns] at h; cases h)
  refine ⟨_, _, pre0 _ ?_, hrun, hended, _, _, rfl, ?_, ⟨_, rfl⟩, hW, hsame.mono (by decide) (by decide)⟩
  · show SS p e below s₁ m 0 #[rv a1, iv (0 : Int32), iv (2 : Int32), .unset, .unset, .unset] [] _
    refine XS.iloadN X0.here hx rfl (hb hby d5_0) rfl ?_
    show SS p e below s₁ m 1 #[rv a1, iv (0 : Int32), iv (2 : Int32), .unset, .unset, .unset] [(.int (2 : Int32))] _
    refine st2 _ ?_
    show SS p e below T2 m 3 #[rv a1, iv (0 : Int32), iv (2 : Int32), .unset, .unset, .unset] [(.ref b2)] _
    refine XS.astoreN X2.here hx rfl (hb hby d5_3) rfl rfl (l' := #[rv a1, iv (0 : Int32), iv (2 : Int32), rv b2, .unset, .unset]) rfl ?_
    refine XS.aloadN X2.here hx rfl (hb hby d5_4) rfl rfl ?_
    refine XS.iloadN X2.here hx rfl (hb hby d5_5) rfl ?_
    refine XS.aloadN X2.here hx rfl (hb hby d5_6) rfl rfl ?_
    show SS p e below T2 m 7 #[rv a1, iv (0 : Int32), iv (2 : Int32), rv b2, .unset, .unset] [(.ref b2), (.int (0 : Int32)), (.ref a1)] _
    refine XS.iconst X2.here hx rfl (hb hby d5_7) ?_
    refine XS.iloadN X2.here hx rfl (hb hby d5_8) rfl ?_
    show SS p e below T2 m 9 #[rv a1, iv (0 : Int32), iv (2 : Int32), rv b2, .unset, .unset] [(.int (2 : Int32)), (.int (0 : Int32)), (.ref b2), (.int (0 : Int32)), (.ref a1)] _
    refine st6 _ ?_
    show SS p e below T6 m 12 #[rv a1, iv (0 : Int32), iv (2 : Int32), rv b2, .unset, .unset] [(.int (2 : Int32))] _
    refine XS.istore X6.here hx rfl (hb hby d5_12) rfl (l' := #[rv a1, iv (0 : Int32), iv (2 : Int32), rv b2, iv (2 : Int32), .unset]) rfl ?_
    refine XS.iload X6.here hx rfl (hb hby d5_14) rfl ?_
    refine XS.iloadN X6.here hx rfl (hb hby d5_16) rfl ?_
    show SS p e below T6 m 17 #[rv a1, iv (0 : Int32), iv (2 : Int32), rv b2, iv (2 : Int32), .unset] [(.int (2 : Int32)), (.int (2 : Int32))] _
    refine XS.icmpYes X6.here hx rfl (pc0 := 17) (pc' := 57) rfl (hb hby d5_17) rfl (teq (rfl : (2 : Int32) = (2 : Int32))).1 (by decide) (by decide) ?_
    show SS p e below T6 m 57 #[rv a1, iv (0 : Int32), iv (2 : Int32), rv b2, iv (2 : Int32), .unset] [] _
    refine XS.aloadN X6.here hx rfl (hb hby d5_57) rfl rfl ?_
    show SS p e below T6 m 58 #[rv a1, iv (0 : Int32), iv (2 : Int32), rv b2, iv (2 : Int32), .unset] [(.ref b2)] _
    jvm_step X6.here [X6.here.top, hx, (hb hby d5_58), X6.method', Bd.returns, Value.isRef, FieldType.isReference]
    first | (intro acts; rw [hr _ acts rfl rfl rfl]) | rw [hr _ _ rfl rfl rfl]
    exact Steps.refl _
  · show Q_rm5_2 Z a1 p3 p4 k5 h0 n0 _ T6.heap _
    exact ⟨b2, k2, rfl, N6, KK6, sz_b2, u6_0⟩
def Q_rm7_1 (Z : State) (a1 : Addr) (p2 : Int32) (p3 : Int32) (k4 : ClassId) (h0 : Heap) (n0 : Nat) (v : Option Value) (h : Heap) (L : List Loc) : Prop := v = some (.int (0 : Int32)) ∧ Fr n0 L ∧ h = h0
set_option maxRecDepth 65536 in
set_option maxHeartbeats 40000000 in
theorem rm7_1 (l : Launch) (Z : State) (a0 : Array Value) (hw : ∀ d ∈ tables_1, d.before a0 Z = true) (ws : List Jvm.Cond) (a1 : Addr) (p2 : Int32) (p3 : Int32) (k4 : ClassId) (h0 : Heap) (n0 : Nat) (OL0 : Old Z n0 h0) (pr1 : Arv Z h0 a1 k4 .byte (2 : Int32) [(.int p2), (.int p3)] (.int (0 : Int32))) :
    MetFree l mn7 (head1 (Jvm.Cond.code mn7 jdk_52_method_15_code 2 (some .byte) :: ws) ({ frames := 0, cells := 0, slots := 0, locals := 0 } : Room)) (fun a U => a = #[(.ref a1), (.int (2 : Int32))] ∧ Z.Warmed39 U.vm ∧ U.heap = h0) (fun _ _ _ _ _ => True) (fun _ U o U' => ∃ v L, o = .returned v ∧ Q_rm7_1 Z a1 p2 p3 k4 h0 n0 v U'.heap L ∧ FrameEnd U o U' L ({ frames := 0, cells := 0, slots := 0, locals := 0 } : Room).cells ({ frames := 0, cells := 0, slots := 0, locals := 0 } : Room).slots) := by
  refine MetFree.of_bodySF (plainFor_of_name pn_6) hisR ?_
  intro p e s m args below meth c s₁ Bd hml0 hP hK
  obtain ⟨rfl, hZ, hh⟩ := hP
  have hx := Bd.exec
  have hby := Bd.bytes
  have hml : c.maxLocals = 2 := hml0
  have hown : s.vm.findClass "java/lang/StringUTF16" = some m.cls := findClass_of_methodNamed Bd.named
  have hnm := (name_of_methodNamed Bd.named Bd.method).1
  have X0 : Stand p l e ({ frames := 0, cells := 0, slots := 0, locals := 0 } : Room) s m #[(.ref a1), (.int (2 : Int32))] below meth c s₁ [] 0 0 := Stand.of_body Bd
  have e0 : s₁.heap = h0 := by rw [← hh, Bd.state]; rfl
  have N0 := Fr.nil n0
  have pre0 : ∀ t, SS p e below s₁ m 0 #[rv a1, iv (2 : Int32)] [] t → Steps p.tables e below (s₁.setTop (entryFrame m #[(.ref a1), (.int (2 : Int32))] 2)) t := fun t k => castTop (ef_7_24 m a1) k
  obtain ⟨cl5, Ar5, -, Sz5, Nn5, -, -⟩ := id pr1
  obtain ⟨fs, hr, hrun, hended, hW, hsame⟩ := X0.leave (v := some (.int (0 : Int32))) (fun h => by rw [Bd.returns] at h; cases h)
  refine ⟨_, _, pre0 _ ?_, hrun, hended, _, _, rfl, ?_, ⟨_, rfl⟩, hW, hsame.mono (by decide) (by decide)⟩
  · show SS p e below s₁ m 0 #[rv a1, iv (2 : Int32)] [] _
    refine XS.iloadN X0.here hx rfl (hb hby d7_0) rfl ?_
    refine XS.aloadN X0.here hx rfl (hb hby d7_1) rfl rfl ?_
    show SS p e below s₁ m 2 #[rv a1, iv (2 : Int32)] [(.ref a1), (.int (2 : Int32))] _
    refine X0.arraylength hx (by rw [e0]; exact Ar5.1) (State.isArrayOf_alike hZ.alike Ar5.2.1) (g := (mkF m 2 #[rv a1, iv (2 : Int32)] [(.ref a1), (.int (2 : Int32))])) rfl rfl (hb hby d7_2) _ ?_
    rw [len_of Sz5 Nn5]
    show SS p e below s₁ m 3 #[rv a1, iv (2 : Int32)] [(.int (2 : Int32)), (.int (2 : Int32))] _
    refine XS.isub X0.here hx rfl (hb hby d7_3) rfl ?_
    show SS p e below s₁ m 4 #[rv a1, iv (2 : Int32)] [(.int (0 : Int32))] _
    refine XS.bipush X0.here hx rfl (hb hby d7_4) ?_
    show SS p e below s₁ m 6 #[rv a1, iv (2 : Int32)] [(.int (31 : Int32)), (.int (0 : Int32))] _
    refine XS.iushr X0.here hx rfl (hb hby d7_6) rfl ?_
    show SS p e below s₁ m 7 #[rv a1, iv (2 : Int32)] [(.int (0 : Int32))] _
    refine XS.i2b X0.here hx rfl (hb hby d7_7) rfl ?_
    show SS p e below s₁ m 8 #[rv a1, iv (2 : Int32)] [(.int (0 : Int32))] _
    exact retN X0 hx (t := .byte) Bd.returns (by simp) (hb hby d7_8) hr
  · show Q_rm7_1 Z a1 p2 p3 k4 h0 n0 _ s₁.heap _
    rw [e0]
    exact ⟨rfl, N0, rfl⟩
def Q_rm3_3 (Z : State) (a1 : Addr) (a2 : Addr) (p4 : Int32) (p6 : Int32) (p7 : Int32) (k8 : ClassId) (h0 : Heap) (n0 : Nat) (v : Option Value) (h : Heap) (L : List Loc) : Prop := ∃ b9_0 : Addr, ∃ kx9_0 : ClassId, v = none ∧ Fr n0 L ∧ Keep h0 h [a1] ∧ h0.size ≤ b9_0 ∧ Fld Z h a1 "java/lang/String" "coder" "B" (.int (0 : Int32)) ∧ Fld Z h a1 "java/lang/String" "value" "[B" (.ref b9_0) ∧ Arv Z h b9_0 kx9_0 .byte (2 : Int32) [(.int ((p6.toInt8.toInt32).toInt8.toInt32)), (.int ((p7.toInt8.toInt32).toInt8.toInt32))] (.int (0 : Int32))
set_option maxRecDepth 65536 in
set_option maxHeartbeats 40000000 in
theorem rm3_3 (l : Launch) (Z : State) (a0 : Array Value) (hw : ∀ d ∈ tables_1, d.before a0 Z = true) (ws : List Jvm.Cond) (a1 : Addr) (a2 : Addr) (p4 : Int32) (p6 : Int32) (p7 : Int32) (k8 : ClassId) (h0 : Heap) (n0 : Nat) (OL0 : Old Z n0 h0) (pr1 : Sta Z Z.heap "java/lang/String" "COMPACT_STRINGS" "Z" (.int p4)) (pr2 : ¬ (p4 = (0 : Int32))) (pr3 : Arv Z h0 a2 k8 .char (2 : Int32) [(.int p6), (.int p7)] (.int (0 : Int32))) (pr4 : ¬ ((255 : Int32) < p6)) (pr5 : ¬ ((255 : Int32) < p7)) (pr6 : Exa Z h0 a1 "java/lang/String") (pr7 : Fld Z h0 a1 "java/lang/String" "coder" "B" (.int (0 : Int32))) (pr8 : n0 ≤ a1) (pr9 : Fld Z h0 a1 "java/lang/String" "value" "[B" .null) :
    MetFree l mn3 (head1 (Jvm.Cond.code mn3 jdk_42_method_149_code 6 none :: ws) ({ frames := 2, cells := 1, slots := 2, locals := 35 } : Room)) (fun a U => a = #[(.ref a1), (.ref a2), (.int (0 : Int32)), (.int (2 : Int32)), .null] ∧ Z.Warmed39 U.vm ∧ U.heap = h0) (fun _ _ _ _ _ => True) (fun _ U o U' => ∃ v L, o = .returned v ∧ Q_rm3_3 Z a1 a2 p4 p6 p7 k8 h0 n0 v U'.heap L ∧ FrameEnd U o U' L ({ frames := 2, cells := 1, slots := 2, locals := 35 } : Room).cells ({ frames := 2, cells := 1, slots := 2, locals := 35 } : Room).slots) := by
  refine MetFree.of_bodySF (plainFor_of_name pn_0) hisR ?_
  intro p e s m args below meth c s₁ Bd hml0 hP hK
  obtain ⟨rfl, hZ, hh⟩ := hP
  have hx := Bd.exec
  have hby := Bd.bytes
  have hml : c.maxLocals = 6 := hml0
  have hown : s.vm.findClass "java/lang/String" = some m.cls := findClass_of_methodNamed Bd.named
  have hnm := (name_of_methodNamed Bd.named Bd.method).1
  have X0 : Stand p l e ({ frames := 2, cells := 1, slots := 2, locals := 35 } : Room) s m #[(.ref a1), (.ref a2), (.int (0 : Int32)), (.int (2 : Int32)), .null] below meth c s₁ [] 0 0 := Stand.of_body Bd
  have e0 : s₁.heap = h0 := by rw [← hh, Bd.state]; rfl
  have N0 := Fr.nil n0
  have pre0 : ∀ t, SS p e below s₁ m 0 #[rv a1, rv a2, iv (0 : Int32), iv (2 : Int32), .val .null, .unset] [] t → Steps p.tables e below (s₁.setTop (entryFrame m #[(.ref a1), (.ref a2), (.int (0 : Int32)), (.int (2 : Int32)), .null] 6)) t := fun t k => castTop (ef_3_25 m a1 a2) k
  obtain ⟨T3, X3, e3, st3⟩ := initO X0 hx hZ hown (wd16 hw) (wd17 hw) (wd18 hw) e0 (g := (mkF m 1 #[rv a1, rv a2, iv (0 : Int32), iv (2 : Int32), .val .null, .unset] [(.ref a1)])) rfl (by rw [hml]; rfl) rfl (hb hby d3_1) (by decide) (W := 0) (by show 2 * 0 + _ ≤ _; exact Nat.le_of_eq rfl) (by decide)
  obtain ⟨T5, X5, e5, st5⟩ := getS2 X3 hx hZ hown (host := "") (Or.inl (wd19 hw)) Via.refl e3 (pr1.ext OL0.2) (g := (mkF m 27 #[rv a1, rv a2, iv (0 : Int32), iv (2 : Int32), .val .null, .unset] [])) rfl (hb hby d3_27)
  obtain ⟨_, _, ⟨T9, L9, k9, n9⟩, -, X9, ⟨Lc9, hQ9, l9, y9, z9⟩, st9⟩ := Jvm.LawKit.callS X5 hx (y := mn5) hown (mvT hZ (wd20 hw)) (mvT hZ (wd21 hw)) (mvT hZ (wd22 hw)) (mvT hZ (wd23 hw)) (by decide) (backOf (W := 0) (rm5_2 l Z a0 hw [] a2 p6 p7 k8 h0 n0 OL0 pr3 pr4 pr5) hZ (wd23 hw) (wd22 hw) (by decide) (by decide)) (g := (mkF m 36 #[rv a1, rv a2, iv (0 : Int32), iv (2 : Int32), .val .null, .unset] [(.int (2 : Int32)), (.int (0 : Int32)), (.ref a2)])) rfl (by rw [hml]; rfl) (argsL := [(.ref a2), (.int (0 : Int32)), (.int (2 : Int32))]) (rest := []) (lenOf pd_17 rfl) rfl (by show 2 * 0 + _ ≤ _; exact Nat.le_of_eq rfl) (hb hby d3_36) (fun _ _ => ⟨rfl, e5, (by decide : 0 + 1 ≤ _), (by decide : 0 + 2 ≤ _)⟩)
  dsimp only [Pt.U, Pt.locs, Pt.cells, Pt.slots] at X9 l9 y9 z9 st9 hQ9
  subst l9 y9 z9
  obtain ⟨b9_0, kx9_0, rfl, Nq9, K9, u9_0, u9_1⟩ := hQ9
  have KK9 : Keep h0 T9.heap [a1] := (Keep.refl h0 [a1]).trans K9 all0
  have OL9 := OL0.keep K9 all0
  have g_b9_0 : n0 ≤ b9_0 := Nat.le_trans (Nat.le_trans (Nat.le_of_eq OL0.1.symm) OL0.2.1) u9_0
  have sz_b9_0 : h0.size ≤ b9_0 := Nat.le_trans (Keep.refl h0 [a1]).1 u9_0
  have N9 := Fr.app N0 Nq9
  obtain ⟨_, _, ⟨T10, L10, k10, n10⟩, -, X10, ⟨Lc10, hQ10, l10, y10, z10⟩, st10⟩ := Jvm.LawKit.callS X9 hx (y := mn7) hown (mvT hZ (wd28 hw)) (mvT hZ (wd29 hw)) (mvT hZ (wd22 hw)) (mvT hZ (wd30 hw)) (by decide) (backOf (W := 1) (rm7_1 l Z a0 hw [] b9_0 ((p6.toInt8.toInt32).toInt8.toInt32) ((p7.toInt8.toInt32).toInt8.toInt32) kx9_0 T9.heap n0 OL9 u9_1) hZ (wd30 hw) (wd22 hw) (by decide) (by decide)) (g := (mkF m 45 #[rv a1, rv a2, iv (0 : Int32), iv (2 : Int32), .val .null, rv b9_0] [(.int (2 : Int32)), (.ref b9_0), (.ref a1)])) rfl (by rw [hml]; rfl) (argsL := [(.ref b9_0), (.int (2 : Int32))]) (rest := [(.ref a1)]) (lenOf pd_19 rfl) rfl (by show 2 * 0 + _ ≤ _; exact Nat.le_of_eq rfl) (hb hby d3_45) (fun _ _ => ⟨rfl, rfl, (by decide : 1 + 0 ≤ _), (by decide : 2 + 0 ≤ _)⟩)
  dsimp only [Pt.U, Pt.locs, Pt.cells, Pt.slots] at X10 l10 y10 z10 st10 hQ10
  subst l10 y10 z10
  obtain ⟨rfl, Nq10, ec10⟩ := hQ10
  have N10 := Fr.app N9 Nq10
  have fc11 := (pr6.keep K9)
  have fc12 := (pr7.keep K9 nin0)
  obtain ⟨T13, h13, X13, e13, W13, st13⟩ := putFN X10 hx hZ hown (wd31 hw) Via.refl ec10 fc12 fc11 (Or.inr ⟨(wd32 hw), rfl, hnm⟩) (wd6 hw) (ty := .byte) (v' := (.int (0 : Int32))) (by decide) rfl rfl (g := (mkF m 48 #[rv a1, rv a2, iv (0 : Int32), iv (2 : Int32), .val .null, rv b9_0] [(.int (0 : Int32)), (.ref a1)])) rfl rfl (hb hby d3_48)
  have Fw13 := fc12.same W13
  have KK13 : Keep h0 h13 [a1] := KK9.wr W13 (Or.inl (List.mem_of_getElem? (i := 0) rfl))
  have OL13 := OL9.wr W13 pr8
  have N13 := Fr.snoc X13 N10 pr8
  have fc14 := (fc11.wr W13)
  have fc15 := ((pr9.keep K9 nin0).other W13 (Or.inr (slot_ne (Or.inr (wd34 hw)) (Or.inr (wd32 hw)) (by decide) (t := (.array .byte)) (t' := .byte) (by decide) (by decide))))
  obtain ⟨T16, h16, X16, e16, W16, st16⟩ := putF X13 hx hZ hown (host := "") (Or.inl (wd33 hw)) Via.refl e13 fc15 fc14 (Or.inr ⟨(wd34 hw), rfl, hnm⟩) (wd6 hw) (ty := (.array .byte)) (by decide) rfl rfl (g := (mkF m 54 #[rv a1, rv a2, iv (0 : Int32), iv (2 : Int32), .val .null, rv b9_0] [(.ref b9_0), (.ref a1)])) rfl rfl (hb hby d3_54)
  have Fw16 := fc15.same W16
  have KK16 : Keep h0 h16 [a1] := KK13.wr W16 (Or.inl (List.mem_of_getElem? (i := 0) rfl))
  have OL16 := OL13.wr W16 pr8
  have N16 := Fr.snoc X16 N13 pr8
  have fc17 := (Fw13.other W16 (Or.inr (slot_ne (Or.inr (wd32 hw)) (Or.inr (wd34 hw)) (by decide) (t := .byte) (t' := (.array .byte)) (by decide) (by decide))))
  have fc18 := ((u9_1.other W13 (Ne.symm (Nat.ne_of_lt (Nat.lt_of_lt_of_le pr9.lt sz_b9_0)))).other W16 (Ne.symm (Nat.ne_of_lt (Nat.lt_of_lt_of_le pr9.lt sz_b9_0))))
  obtain ⟨fs, hr, hrun, hended, hW, hsame⟩ := X16.leave (v := none) (fun _ => rfl)
  refine ⟨_, _, pre0 _ ?_, hrun, hended, _, _, rfl, ?_, ⟨_, rfl⟩, hW, hsame.mono (by decide) (by decide)⟩
  · show SS p e below s₁ m 0 #[rv a1, rv a2, iv (0 : Int32), iv (2 : Int32), .val .null, .unset] [] _
    refine XS.aloadN X0.here hx rfl (hb hby d3_0) rfl rfl ?_
    show SS p e below s₁ m 1 #[rv a1, rv a2, iv (0 : Int32), iv (2 : Int32), .val .null, .unset] [(.ref a1)] _
    refine st3 _ ?_
    show SS p e below T3 m 4 #[rv a1, rv a2, iv (0 : Int32), iv (2 : Int32), .val .null, .unset] [] _
    refine XS.iloadN X3.here hx rfl (hb hby d3_4) rfl ?_
    show SS p e below T3 m 5 #[rv a1, rv a2, iv (0 : Int32), iv (2 : Int32), .val .null, .unset] [(.int (2 : Int32))] _
    refine XS.ifYes X3.here hx rfl (pc0 := 5) (pc' := 27) rfl (hb hby d3_5) rfl ((if0 _ _).trans (feq (by decide : ¬ ((2 : Int32) = (0 : Int32)))).2) (by decide) (by decide) ?_
    show SS p e below T3 m 27 #[rv a1, rv a2, iv (0 : Int32), iv (2 : Int32), .val .null, .unset] [] _
    refine st5 _ ?_
    show SS p e below T5 m 30 #[rv a1, rv a2, iv (0 : Int32), iv (2 : Int32), .val .null, .unset] [(.int p4)] _
    refine XS.ifNo X5.here hx rfl (hb hby d3_30) rfl ((if0 _ _).trans (feq pr2).1) ?_
    show SS p e below T5 m 33 #[rv a1, rv a2, iv (0 : Int32), iv (2 : Int32), .val .null, .unset] [] _
    refine XS.aloadN X5.here hx rfl (hb hby d3_33) rfl rfl ?_
    refine XS.iloadN X5.here hx rfl (hb hby d3_34) rfl ?_
    refine XS.iloadN X5.here hx rfl (hb hby d3_35) rfl ?_
    show SS p e below T5 m 36 #[rv a1, rv a2, iv (0 : Int32), iv (2 : Int32), .val .null, .unset] [(.int (2 : Int32)), (.int (0 : Int32)), (.ref a2)] _
    refine st9 _ ?_
    show SS p e below T9 m 39 #[rv a1, rv a2, iv (0 : Int32), iv (2 : Int32), .val .null, .unset] [(.ref b9_0)] _
    refine XS.astore X9.here hx rfl (hb hby d3_39) rfl rfl (l' := #[rv a1, rv a2, iv (0 : Int32), iv (2 : Int32), .val .null, rv b9_0]) rfl ?_
    refine XS.aloadN X9.here hx rfl (hb hby d3_41) rfl rfl ?_
    refine XS.aload X9.here hx rfl (hb hby d3_42) rfl rfl ?_
    refine XS.iloadN X9.here hx rfl (hb hby d3_44) rfl ?_
    show SS p e below T9 m 45 #[rv a1, rv a2, iv (0 : Int32), iv (2 : Int32), .val .null, rv b9_0] [(.int (2 : Int32)), (.ref b9_0), (.ref a1)] _
    refine st10 _ ?_
    show SS p e below T10 m 48 #[rv a1, rv a2, iv (0 : Int32), iv (2 : Int32), .val .null, rv b9_0] [(.int (0 : Int32)), (.ref a1)] _
    refine st13 _ ?_
    show SS p e below T13 m 51 #[rv a1, rv a2, iv (0 : Int32), iv (2 : Int32), .val .null, rv b9_0] [] _
    refine XS.aloadN X13.here hx rfl (hb hby d3_51) rfl rfl ?_
    refine XS.aload X13.here hx rfl (hb hby d3_52) rfl rfl ?_
    show SS p e below T13 m 54 #[rv a1, rv a2, iv (0 : Int32), iv (2 : Int32), .val .null, rv b9_0] [(.ref b9_0), (.ref a1)] _
    refine st16 _ ?_
    show SS p e below T16 m 57 #[rv a1, rv a2, iv (0 : Int32), iv (2 : Int32), .val .null, rv b9_0] [] _
    exact X16.returnOut hx Bd.returns (hb hby d3_57) hr
  · show Q_rm3_3 Z a1 a2 p4 p6 p7 k8 h0 n0 _ T16.heap _
    rw [e16]
    exact ⟨b9_0, kx9_0, rfl, N16, KK16, sz_b9_0, fc17, Fw16, fc18⟩
def Q_rm2_3 (Z : State) (a1 : Addr) (a2 : Addr) (p3 : Int32) (p4 : Int32) (k5 : ClassId) (p7 : Int32) (h0 : Heap) (n0 : Nat) (v : Option Value) (h : Heap) (L : List Loc) : Prop := ∃ b8_0 : Addr, ∃ kx8_0 : ClassId, v = none ∧ Fr n0 L ∧ Keep h0 h [a1] ∧ h0.size ≤ b8_0 ∧ Fld Z h a1 "java/lang/String" "coder" "B" (.int (0 : Int32)) ∧ Fld Z h a1 "java/lang/String" "value" "[B" (.ref b8_0) ∧ Arv Z h b8_0 kx8_0 .byte (2 : Int32) [(.int ((p3.toInt8.toInt32).toInt8.toInt32)), (.int ((p4.toInt8.toInt32).toInt8.toInt32))] (.int (0 : Int32))
set_option maxRecDepth 65536 in
set_option maxHeartbeats 40000000 in
theorem rm2_3 (l : Launch) (Z : State) (a0 : Array Value) (hw : ∀ d ∈ tables_1, d.before a0 Z = true) (ws : List Jvm.Cond) (a1 : Addr) (a2 : Addr) (p3 : Int32) (p4 : Int32) (k5 : ClassId) (p7 : Int32) (h0 : Heap) (n0 : Nat) (OL0 : Old Z n0 h0) (pr1 : Arv Z h0 a2 k5 .char (2 : Int32) [(.int p3), (.int p4)] (.int (0 : Int32))) (pr2 : Sta Z Z.heap "java/lang/String" "COMPACT_STRINGS" "Z" (.int p7)) (pr3 : ¬ (p7 = (0 : Int32))) (pr4 : ¬ ((255 : Int32) < p3)) (pr5 : ¬ ((255 : Int32) < p4)) (pr6 : Exa Z h0 a1 "java/lang/String") (pr7 : Fld Z h0 a1 "java/lang/String" "coder" "B" (.int (0 : Int32))) (pr8 : n0 ≤ a1) (pr9 : Fld Z h0 a1 "java/lang/String" "value" "[B" .null) :
    MetFree l mn2 (head1 (Jvm.Cond.code mn2 jdk_42_method_3_code 2 none :: ws) ({ frames := 3, cells := 1, slots := 2, locals := 52 } : Room)) (fun a U => a = #[(.ref a1), (.ref a2)] ∧ Z.Warmed39 U.vm ∧ U.heap = h0) (fun _ _ _ _ _ => True) (fun _ U o U' => ∃ v L, o = .returned v ∧ Q_rm2_3 Z a1 a2 p3 p4 k5 p7 h0 n0 v U'.heap L ∧ FrameEnd U o U' L ({ frames := 3, cells := 1, slots := 2, locals := 52 } : Room).cells ({ frames := 3, cells := 1, slots := 2, locals := 52 } : Room).slots) := by
  refine MetFree.of_bodySF (plainFor_of_name pn_0) hisR ?_
  intro p e s m args below meth c s₁ Bd hml0 hP hK
  obtain ⟨rfl, hZ, hh⟩ := hP
  have hx := Bd.exec
  have hby := Bd.bytes
  have hml : c.maxLocals = 2 := hml0
  have hown : s.vm.findClass "java/lang/String" = some m.cls := findClass_of_methodNamed Bd.named
  have hnm := (name_of_methodNamed Bd.named Bd.method).1
  have X0 : Stand p l e ({ frames := 3, cells := 1, slots := 2, locals := 52 } : Room) s m #[(.ref a1), (.ref a2)] below meth c s₁ [] 0 0 := Stand.of_body Bd
  have e0 : s₁.heap = h0 := by rw [← hh, Bd.state]; rfl
  have N0 := Fr.nil n0
  have pre0 : ∀ t, SS p e below s₁ m 0 #[rv a1, rv a2] [] t → Steps p.tables e below (s₁.setTop (entryFrame m #[(.ref a1), (.ref a2)] 2)) t := fun t k => castTop (ef_2_1 m a1 a2) k
  obtain ⟨cl6, Ar6, -, Sz6, Nn6, -, -⟩ := id pr1
  obtain ⟨_, _, ⟨T8, L8, k8, n8⟩, -, X8, ⟨Lc8, hQ8, l8, y8, z8⟩, st8⟩ := X0.specialBack hx (y := mn3) rfl hown (mvT hZ (wd12 hw)) (mvT hZ (wd13 hw)) (mvT hZ (wd15 hw)) (by decide) (backOf (W := 0) (rm3_3 l Z a0 hw [] a1 a2 p7 p3 p4 k5 h0 n0 OL0 pr2 pr3 pr1 pr4 pr5 pr6 pr7 pr8 pr9) hZ (wd15 hw) (wd7 hw) (by decide) (by decide)) (g := (mkF m 6 #[rv a1, rv a2] [.null, (.int (2 : Int32)), (.int (0 : Int32)), (.ref a2), (.ref a1)])) rfl (by rw [hml]; rfl) (Steps.refl _) (a := a1) (argsL := [(.ref a2), (.int (0 : Int32)), (.int (2 : Int32)), .null]) (rest := []) (lenOf pd_0 rfl) rfl (by show 2 * 0 + _ ≤ _; exact Nat.le_of_eq rfl) (hb hby d2_6) (fun _ _ => ⟨rfl, e0, (by decide : 0 + 1 ≤ _), (by decide : 0 + 2 ≤ _)⟩)
  dsimp only [Pt.U, Pt.locs, Pt.cells, Pt.slots] at X8 l8 y8 z8 st8 hQ8
  subst l8 y8 z8
  obtain ⟨b8_0, kx8_0, rfl, Nq8, K8, u8_0, u8_1, u8_2, u8_3⟩ := hQ8
  have KK8 : Keep h0 T8.heap [a1] := (Keep.refl h0 [a1]).trans K8 (allS (Or.inl (List.mem_of_getElem? (i := 0) rfl)) all0)
  have OL8 := OL0.keep K8 (allS pr8 all0)
  have g_b8_0 : n0 ≤ b8_0 := Nat.le_trans (Nat.le_trans (Nat.le_of_eq OL0.1.symm) OL0.2.1) u8_0
  have sz_b8_0 : h0.size ≤ b8_0 := Nat.le_trans (Keep.refl h0 [a1]).1 u8_0
  have N8 := Fr.app N0 Nq8
  obtain ⟨fs, hr, hrun, hended, hW, hsame⟩ := X8.leave (v := none) (fun _ => rfl)
  refine ⟨_, _, pre0 _ ?_, hrun, hended, _, _, rfl, ?_, ⟨_, rfl⟩, hW, hsame.mono (by decide) (by decide)⟩
  · show SS p e below s₁ m 0 #[rv a1, rv a2] [] _
    refine XS.aloadN X0.here hx rfl (hb hby d2_0) rfl rfl ?_
    refine XS.aloadN X0.here hx rfl (hb hby d2_1) rfl rfl ?_
    refine XS.iconst X0.here hx rfl (hb hby d2_2) ?_
    refine XS.aloadN X0.here hx rfl (hb hby d2_3) rfl rfl ?_
    show SS p e below s₁ m 4 #[rv a1, rv a2] [(.ref a2), (.int (0 : Int32)), (.ref a2), (.ref a1)] _
    refine X0.arraylength hx (by rw [e0]; exact Ar6.1) (State.isArrayOf_alike hZ.alike Ar6.2.1) (g := (mkF m 4 #[rv a1, rv a2] [(.ref a2), (.int (0 : Int32)), (.ref a2), (.ref a1)])) rfl rfl (hb hby d2_4) _ ?_
    rw [len_of Sz6 Nn6]
    show SS p e below s₁ m 5 #[rv a1, rv a2] [(.int (2 : Int32)), (.int (0 : Int32)), (.ref a2), (.ref a1)] _
    refine XS.aconstNull X0.here hx rfl (hb hby d2_5) ?_
    show SS p e below s₁ m 6 #[rv a1, rv a2] [.null, (.int (2 : Int32)), (.int (0 : Int32)), (.ref a2), (.ref a1)] _
    refine st8.trans ?_
    show SS p e below T8 m 9 #[rv a1, rv a2] [] _
    exact X8.returnOut hx Bd.returns (hb hby d2_9) hr
  · show Q_rm2_3 Z a1 a2 p3 p4 k5 p7 h0 n0 _ T8.heap _
    exact ⟨b8_0, kx8_0, rfl, N8, KK8, sz_b8_0, u8_1, u8_2, u8_3⟩
def Q_rm1_5 (Z : State) (p1 : Int32) (p2 : Int32) (p3 : Int32) (p10 : Int32) (h0 : Heap) (n0 : Nat) (v : Option Value) (h : Heap) (L : List Loc) : Prop := ∃ b4 : Addr, ∃ b11_0 : Addr, ∃ kx11_0 : ClassId, v = some (.ref b4) ∧ Fr n0 L ∧ Keep h0 h [] ∧ h0.size ≤ b4 ∧ h0.size ≤ b11_0 ∧ b4 ≠ b11_0 ∧ Exa Z h b4 "java/lang/String" ∧ Fld Z h b4 "java/lang/String" "coder" "B" (.int (0 : Int32)) ∧ Fld Z h b4 "java/lang/String" "value" "[B" (.ref b11_0) ∧ Arv Z h b11_0 kx11_0 .byte (2 : Int32) [(.int (((nar .char p1).toInt8.toInt32).toInt8.toInt32)), (.int (((nar .char p2).toInt8.toInt32).toInt8.toInt32))] (.int (0 : Int32))
set_option maxRecDepth 65536 in
set_option maxHeartbeats 40000000 in
theorem rm1_5 (l : Launch) (Z : State) (a0 : Array Value) (hw : ∀ d ∈ tables_1, d.before a0 Z = true) (ws : List Jvm.Cond) (p1 : Int32) (p2 : Int32) (p3 : Int32) (p10 : Int32) (h0 : Heap) (n0 : Nat) (OL0 : Old Z n0 h0) (pr1 : Sta Z Z.heap "java/lang/String" "COMPACT_STRINGS" "Z" (.int p10)) (pr2 : ¬ (p10 = (0 : Int32))) (pr3 : ¬ ((255 : Int32) < (nar .char p1))) (pr4 : ¬ ((255 : Int32) < (nar .char p2))) :
    MetFree l mn1 (head1 (Jvm.Cond.code mn1 method_2_code 4 (some (.object "java/lang/String")) :: ws) ({ frames := 4, cells := 3, slots := 8, locals := 66 } : Room)) (fun a U => a = #[(.int (2 : Int32)), (.int p1), (.int p2), (.int p3)] ∧ Z.Warmed39 U.vm ∧ U.heap = h0) (fun _ _ _ _ _ => True) (fun _ U o U' => ∃ v L, o = .returned v ∧ Q_rm1_5 Z p1 p2 p3 p10 h0 n0 v U'.heap L ∧ FrameEnd U o U' L ({ frames := 4, cells := 3, slots := 8, locals := 66 } : Room).cells ({ frames := 4, cells := 3, slots := 8, locals := 66 } : Room).slots) := by
  refine MetFree.of_bodySF (plainFor_of_name pn_1) hisR ?_
  intro p e s m args below meth c s₁ Bd hml0 hP hK
  obtain ⟨rfl, hZ, hh⟩ := hP
  have hx := Bd.exec
  have hby := Bd.bytes
  have hml : c.maxLocals = 4 := hml0
  have hown : s.vm.findClass "com/example/aeroslice/aeroslice/SrsDefaultsOfPinLaw" = some m.cls := findClass_of_methodNamed Bd.named
  have hnm := (name_of_methodNamed Bd.named Bd.method).1
  have X0 : Stand p l e ({ frames := 4, cells := 3, slots := 8, locals := 66 } : Room) s m #[(.int (2 : Int32)), (.int p1), (.int p2), (.int p3)] below meth c s₁ [] 0 0 := Stand.of_body Bd
  have e0 : s₁.heap = h0 := by rw [← hh, Bd.state]; rfl
  have N0 := Fr.nil n0
  have pre0 : ∀ t, SS p e below s₁ m 0 #[iv (2 : Int32), iv p1, iv p2, iv p3] [] t → Steps p.tables e below (s₁.setTop (entryFrame m #[(.int (2 : Int32)), (.int p1), (.int p2), (.int p3)] 4)) t := fun t k => castTop (ef_1_26 m p1 p2 p3) k
  obtain ⟨T4, h4, X4, e4, E4, A4, D4, -, st4⟩ := newO X0 hx hZ hown (wd5 hw) (wd6 hw) (wd7 hw) e0 (g := (mkF m 30 #[iv (2 : Int32), iv p1, iv p2, iv p3] [])) rfl (hb hby d1_30) (by decide) (by decide)
  obtain ⟨b4, g4⟩ : ∃ z, z = h0.size := ⟨_, rfl⟩
  rw [← g4] at A4 D4 st4
  have g_b4 : n0 ≤ b4 := (Nat.le_trans (Nat.le_trans (Nat.le_of_eq OL0.1.symm) OL0.2.1) (Nat.le_of_eq g4.symm))
  have sz_b4 : h0.size ≤ b4 := (Nat.le_trans (Keep.refl h0 []).1 (Nat.le_of_eq g4.symm))
  have KK4 : Keep h0 h4 [] := (Keep.refl h0 []).ext E4
  have OL4 := OL0.ext E4
  have F_coder_b4 : Fld Z h4 b4 "java/lang/String" "coder" "B" (.int (0 : Int32)) := D4 (Or.inr (wd32 hw)) (ty := .byte) (by decide)
  have F_value_b4 : Fld Z h4 b4 "java/lang/String" "value" "[B" .null := D4 (Or.inr (wd34 hw)) (ty := (.array .byte)) (by decide)
  obtain ⟨T5, h5, k5, X5, e5, E5, A5, st5⟩ := newP (aty := .char) X4 hx hZ (wd8 hw) e4 (g := (mkF m 35 #[iv (2 : Int32), iv p1, iv p2, iv p3] [(.int (2 : Int32)), (.ref b4), (.ref b4)])) rfl (hb hby d1_35) rfl (by decide) (cap := 2) (by decide) (by decide) (by decide) (by decide)
  obtain ⟨b5, g5⟩ : ∃ z, z = h4.size := ⟨_, rfl⟩
  rw [← g5] at A5 st5
  have V5 : Arv Z h5 b5 k5 .char (2 : Int32) [(.int (0 : Int32)), (.int (0 : Int32))] (.int (0 : Int32)) := (Arv.new A5 (by decide)).pad (pad_rep [] (.int (0 : Int32)) 2)
  have g_b5 : n0 ≤ b5 := (Nat.le_trans (Nat.le_trans (Nat.le_of_eq OL4.1.symm) OL4.2.1) (Nat.le_of_eq g5.symm))
  have sz_b5 : h0.size ≤ b5 := (Nat.le_trans KK4.1 (Nat.le_of_eq g5.symm))
  have KK5 : Keep h0 h5 [] := KK4.ext E5
  have OL5 := OL4.ext E5
  obtain ⟨cl6, Ar6, q6, S6, M6, Hs6, G6⟩ := id V5
  have hin6 : ¬ ((0 : Int32) < 0 ∨ cl6.slots.size ≤ ((0 : Int32)).toNatClampNeg) := inb_of S6 ⟨by decide, by decide⟩
  obtain ⟨T7, h7, X7, e7, W7, st7⟩ := stC X5 hx hZ e5 Ar6 (j := (0 : Int32)) hin6 (g := (mkF m 40 #[iv (2 : Int32), iv p1, iv p2, iv p3] [(.int p1), (.int (0 : Int32)), (.ref b5), (.ref b5), (.ref b4), (.ref b4)])) rfl rfl (hb hby d1_40)
  have V7 : Arv Z h7 b5 k5 .char (2 : Int32) [(.int (nar .char p1)), (.int (0 : Int32))] (.int (0 : Int32)) := Arv.set Ar6 q6 S6 M6 Hs6 G6 (fits_nar_char _) W7 0 rfl (Nat.le_of_ble_eq_true rfl)
  have KK7 : Keep h0 h7 [] := KK5.wr W7 (Or.inr sz_b5)
  have OL7 := OL5.wr W7 g_b5
  have N7 := Fr.snoc X7 N0 g_b5
  obtain ⟨cl8, Ar8, q8, S8, M8, Hs8, G8⟩ := id V7
  have hin8 : ¬ ((1 : Int32) < 0 ∨ cl8.slots.size ≤ ((1 : Int32)).toNatClampNeg) := inb_of S8 ⟨by decide, by decide⟩
  obtain ⟨T9, h9, X9, e9, W9, st9⟩ := stC X7 hx hZ e7 Ar8 (j := (1 : Int32)) hin8 (g := (mkF m 44 #[iv (2 : Int32), iv p1, iv p2, iv p3] [(.int p2), (.int (1 : Int32)), (.ref b5), (.ref b5), (.ref b4), (.ref b4)])) rfl rfl (hb hby d1_44)
  have V9 : Arv Z h9 b5 k5 .char (2 : Int32) [(.int (nar .char p1)), (.int (nar .char p2))] (.int (0 : Int32)) := Arv.set Ar8 q8 S8 M8 Hs8 G8 (fits_nar_char _) W9 1 rfl (Nat.le_of_ble_eq_true rfl)
  have KK9 : Keep h0 h9 [] := KK7.wr W9 (Or.inr sz_b5)
  have OL9 := OL7.wr W9 g_b5
  have N9 := Fr.snoc X9 N7 g_b5
  have fc12 := (((A4.ext E5).wr W7).wr W9)
  have fc13 := (((F_coder_b4.ext E5).other W7 (Or.inl (Nat.ne_of_lt (Nat.lt_of_lt_of_le F_value_b4.lt (Nat.le_of_eq g5.symm))))).other W9 (Or.inl (Nat.ne_of_lt (Nat.lt_of_lt_of_le F_value_b4.lt (Nat.le_of_eq g5.symm)))))
  have fc14 := (((F_value_b4.ext E5).other W7 (Or.inl (Nat.ne_of_lt (Nat.lt_of_lt_of_le F_value_b4.lt (Nat.le_of_eq g5.symm))))).other W9 (Or.inl (Nat.ne_of_lt (Nat.lt_of_lt_of_le F_value_b4.lt (Nat.le_of_eq g5.symm)))))
  obtain ⟨_, _, ⟨T11, L11, k11, n11⟩, -, X11, ⟨Lc11, hQ11, l11, y11, z11⟩, st11⟩ := X9.specialBack hx (y := mn2) rfl hown (mvT hZ (wd9 hw)) (mvT hZ (wd10 hw)) (mvT hZ (wd11 hw)) (by decide) (backOf (W := 1) (rm2_3 l Z a0 hw [] b4 b5 (nar .char p1) (nar .char p2) k5 p10 h9 n0 OL9 V9 pr1 pr2 pr3 pr4 fc12 fc13 g_b4 fc14) hZ (wd11 hw) (wd7 hw) (by decide) (by decide)) (g := (mkF m 45 #[iv (2 : Int32), iv p1, iv p2, iv p3] [(.ref b5), (.ref b4), (.ref b4)])) rfl (by rw [hml]; rfl) (Steps.refl _) (a := b4) (argsL := [(.ref b5)]) (rest := [(.ref b4)]) (lenOf pd_1 rfl) rfl (by show 2 * 0 + _ ≤ _; exact Nat.le_of_eq rfl) (hb hby d1_45) (fun _ _ => ⟨rfl, e9, (by decide : 2 + 1 ≤ _), (by decide : 6 + 2 ≤ _)⟩)
  dsimp only [Pt.U, Pt.locs, Pt.cells, Pt.slots] at X11 l11 y11 z11 st11 hQ11
  subst l11 y11 z11
  obtain ⟨b11_0, kx11_0, rfl, Nq11, K11, u11_0, u11_1, u11_2, u11_3⟩ := hQ11
  have KK11 : Keep h0 T11.heap [] := KK9.trans K11 (allS (Or.inr sz_b4) all0)
  have OL11 := OL9.keep K11 (allS g_b4 all0)
  have g_b11_0 : n0 ≤ b11_0 := Nat.le_trans (Nat.le_trans (Nat.le_of_eq OL9.1.symm) OL9.2.1) u11_0
  have sz_b11_0 : h0.size ≤ b11_0 := Nat.le_trans KK9.1 u11_0
  have N11 := Fr.app N9 Nq11
  have fc15 := (fc12.keep K11)
  obtain ⟨fs, hr, hrun, hended, hW, hsame⟩ := X11.leave (v := some (.ref b4)) (fun h => by rw [Bd.returns] at h; cases h)
  refine ⟨_, _, pre0 _ ?_, hrun, hended, _, _, rfl, ?_, ⟨_, rfl⟩, hW, hsame.mono (by decide) (by decide)⟩
  · show SS p e below s₁ m 0 #[iv (2 : Int32), iv p1, iv p2, iv p3] [] _
    refine XS.iloadN X0.here hx rfl (hb hby d1_0) rfl ?_
    show SS p e below s₁ m 1 #[iv (2 : Int32), iv p1, iv p2, iv p3] [(.int (2 : Int32))] _
    refine XS.ifYes X0.here hx rfl (pc0 := 1) (pc' := 15) rfl (hb hby d1_1) rfl ((if0 _ _).trans (feq (by decide : ¬ ((2 : Int32) = (0 : Int32)))).2) (by decide) (by decide) ?_
    show SS p e below s₁ m 15 #[iv (2 : Int32), iv p1, iv p2, iv p3] [] _
    refine XS.iloadN X0.here hx rfl (hb hby d1_15) rfl ?_
    refine XS.iconst X0.here hx rfl (hb hby d1_16) ?_
    show SS p e below s₁ m 17 #[iv (2 : Int32), iv p1, iv p2, iv p3] [(.int (1 : Int32)), (.int (2 : Int32))] _
    refine XS.icmpYes X0.here hx rfl (pc0 := 17) (pc' := 25) rfl (hb hby d1_17) rfl (feq (by decide : ¬ ((2 : Int32) = (1 : Int32)))).2 (by decide) (by decide) ?_
    show SS p e below s₁ m 25 #[iv (2 : Int32), iv p1, iv p2, iv p3] [] _
    refine XS.iloadN X0.here hx rfl (hb hby d1_25) rfl ?_
    refine XS.iconst X0.here hx rfl (hb hby d1_26) ?_
    show SS p e below s₁ m 27 #[iv (2 : Int32), iv p1, iv p2, iv p3] [(.int (2 : Int32)), (.int (2 : Int32))] _
    refine XS.icmpNo X0.here hx rfl (hb hby d1_27) rfl (teq (rfl : (2 : Int32) = (2 : Int32))).2 ?_
    show SS p e below s₁ m 30 #[iv (2 : Int32), iv p1, iv p2, iv p3] [] _
    refine st4 _ ?_
    show SS p e below T4 m 33 #[iv (2 : Int32), iv p1, iv p2, iv p3] [(.ref b4)] _
    refine XS.dup X4.here hx rfl (hb hby d1_33) rfl rfl ?_
    refine XS.iconst X4.here hx rfl (hb hby d1_34) ?_
    show SS p e below T4 m 35 #[iv (2 : Int32), iv p1, iv p2, iv p3] [(.int (2 : Int32)), (.ref b4), (.ref b4)] _
    refine st5 _ ?_
    show SS p e below T5 m 37 #[iv (2 : Int32), iv p1, iv p2, iv p3] [(.ref b5), (.ref b4), (.ref b4)] _
    refine XS.dup X5.here hx rfl (hb hby d1_37) rfl rfl ?_
    refine XS.iconst X5.here hx rfl (hb hby d1_38) ?_
    refine XS.iloadN X5.here hx rfl (hb hby d1_39) rfl ?_
    show SS p e below T5 m 40 #[iv (2 : Int32), iv p1, iv p2, iv p3] [(.int p1), (.int (0 : Int32)), (.ref b5), (.ref b5), (.ref b4), (.ref b4)] _
    refine st7 _ ?_
    show SS p e below T7 m 41 #[iv (2 : Int32), iv p1, iv p2, iv p3] [(.ref b5), (.ref b4), (.ref b4)] _
    refine XS.dup X7.here hx rfl (hb hby d1_41) rfl rfl ?_
    refine XS.iconst X7.here hx rfl (hb hby d1_42) ?_
    refine XS.iloadN X7.here hx rfl (hb hby d1_43) rfl ?_
    show SS p e below T7 m 44 #[iv (2 : Int32), iv p1, iv p2, iv p3] [(.int p2), (.int (1 : Int32)), (.ref b5), (.ref b5), (.ref b4), (.ref b4)] _
    refine st9 _ ?_
    show SS p e below T9 m 45 #[iv (2 : Int32), iv p1, iv p2, iv p3] [(.ref b5), (.ref b4), (.ref b4)] _
    refine st11.trans ?_
    show SS p e below T11 m 48 #[iv (2 : Int32), iv p1, iv p2, iv p3] [(.ref b4)] _
    jvm_step X11.here [X11.here.top, hx, (hb hby d1_48), X11.method', Bd.returns, Value.isRef, FieldType.isReference]
    first | (intro acts; rw [hr _ acts rfl rfl rfl]) | rw [hr _ _ rfl rfl rfl]
    exact Steps.refl _
  · show Q_rm1_5 Z p1 p2 p3 p10 h0 n0 _ T11.heap _
    exact ⟨b4, b11_0, kx11_0, rfl, N11, KK11, sz_b4, sz_b11_0, (Nat.ne_of_lt (Nat.lt_of_lt_of_le (Nat.lt_of_lt_of_le (Nat.lt_of_lt_of_le (Nat.lt_of_lt_of_le F_value_b4.lt E5.1) (Nat.le_of_eq W7.size.symm)) (Nat.le_of_eq W9.size.symm)) u11_0)), fc15, u11_1, u11_2, u11_3⟩
theorem d1_49 : decode method_2_code 49 = .ok (.new 7, 3) := by decide +kernel
theorem d1_52 : decode method_2_code 52 = .ok (.dup, 1) := by decide +kernel
theorem d1_53 : decode method_2_code 53 = .ok (.iconst 3, 1) := by decide +kernel
theorem d1_54 : decode method_2_code 54 = .ok (.newarray .char, 2) := by decide +kernel
theorem d1_56 : decode method_2_code 56 = .ok (.dup, 1) := by decide +kernel
theorem d1_57 : decode method_2_code 57 = .ok (.iconst 0, 1) := by decide +kernel
theorem d1_58 : decode method_2_code 58 = .ok (.iload_n 1, 1) := by decide +kernel
theorem d1_59 : decode method_2_code 59 = .ok (.castore, 1) := by decide +kernel
theorem d1_60 : decode method_2_code 60 = .ok (.dup, 1) := by decide +kernel
theorem d1_61 : decode method_2_code 61 = .ok (.iconst 1, 1) := by decide +kernel
theorem d1_62 : decode method_2_code 62 = .ok (.iload_n 2, 1) := by decide +kernel
theorem d1_63 : decode method_2_code 63 = .ok (.castore, 1) := by decide +kernel
theorem d1_64 : decode method_2_code 64 = .ok (.dup, 1) := by decide +kernel
theorem d1_65 : decode method_2_code 65 = .ok (.iconst 2, 1) := by decide +kernel
theorem d1_66 : decode method_2_code 66 = .ok (.iload_n 3, 1) := by decide +kernel
theorem d1_67 : decode method_2_code 67 = .ok (.castore, 1) := by decide +kernel
theorem d1_68 : decode method_2_code 68 = .ok (.invokespecial 9, 3) := by decide +kernel
theorem ef_6_28 (m : MethodId) (x0 : Addr) (x2 : Addr) : entryFrame m #[(.ref x0), (.int (0 : Int32)), (.ref x2), (.int (0 : Int32)), (.int (3 : Int32))] 7 = mkF m 0 #[.val (.ref x0), .val (.int (0 : Int32)), .val (.ref x2), .val (.int (0 : Int32)), .val (.int (3 : Int32)), .unset, .unset] [] := by first | (simp [entryFrame, mkF, argsToLocals, Value.category]; done) | rfl
def Q_rm6_3 (Z : State) (a1 : Addr) (a2 : Addr) (p3 : Int32) (p4 : Int32) (p5 : Int32) (k6 : ClassId) (h0 : Heap) (n0 : Nat) (v : Option Value) (h : Heap) (L : List Loc) : Prop := v = some (.int (0 : Int32)) ∧ Fr n0 L ∧ h = h0
set_option maxRecDepth 65536 in
set_option maxHeartbeats 40000000 in
theorem rm6_3 (l : Launch) (Z : State) (a0 : Array Value) (hw : ∀ d ∈ tables_1, d.before a0 Z = true) (ws : List Jvm.Cond) (a1 : Addr) (a2 : Addr) (p3 : Int32) (p4 : Int32) (p5 : Int32) (k6 : ClassId) (h0 : Heap) (n0 : Nat) (OL0 : Old Z n0 h0) (pr1 : Arv Z h0 a1 k6 .char (3 : Int32) [(.int p3), (.int p4), (.int p5)] (.int (0 : Int32))) (pr2 : (255 : Int32) < p3) :
    MetFree l mn6 (head1 (Jvm.Cond.code mn6 jdk_52_method_21_code 7 (some .int) :: ws) ({ frames := 0, cells := 0, slots := 0, locals := 0 } : Room)) (fun a U => a = #[(.ref a1), (.int (0 : Int32)), (.ref a2), (.int (0 : Int32)), (.int (3 : Int32))] ∧ Z.Warmed39 U.vm ∧ U.heap = h0) (fun _ _ _ _ _ => True) (fun _ U o U' => ∃ v L, o = .returned v ∧ Q_rm6_3 Z a1 a2 p3 p4 p5 k6 h0 n0 v U'.heap L ∧ FrameEnd U o U' L ({ frames := 0, cells := 0, slots := 0, locals := 0 } : Room).cells ({ frames := 0, cells := 0, slots := 0, locals := 0 } : Room).slots) := by
  refine MetFree.of_bodySF (plainFor_of_name pn_6) hisR ?_
  intro p e s m args below meth c s₁ Bd hml0 hP hK
  obtain ⟨rfl, hZ, hh⟩ := hP
  have hx := Bd.exec
  have hby := Bd.bytes
  have hml : c.maxLocals = 7 := hml0
  have hown : s.vm.findClass "java/lang/StringUTF16" = some m.cls := findClass_of_methodNamed Bd.named
  have hnm := (name_of_methodNamed Bd.named Bd.method).1
  have X0 : Stand p l e ({ frames := 0, cells := 0, slots := 0, locals := 0 } : Room) s m #[(.ref a1), (.int (0 : Int32)), (.ref a2), (.int (0 : Int32)), (.int (3 : Int32))] below meth c s₁ [] 0 0 := Stand.of_body Bd
  have e0 : s₁.heap = h0 := by rw [← hh, Bd.state]; rfl
  have N0 := Fr.nil n0
  have pre0 : ∀ t, SS p e below s₁ m 0 #[rv a1, iv (0 : Int32), rv a2, iv (0 : Int32), iv (3 : Int32), .unset, .unset] [] t → Steps p.tables e below (s₁.setTop (entryFrame m #[(.ref a1), (.int (0 : Int32)), (.ref a2), (.int (0 : Int32)), (.int (3 : Int32))] 7)) t := fun t k => castTop (ef_6_28 m a1 a2) k
  obtain ⟨cl7, Ar7, -, S7, -, Hs7, -⟩ := id pr1
  have hin7 : ¬ ((0 : Int32) < 0 ∨ cl7.slots.size ≤ ((0 : Int32)).toNatClampNeg) := inb_of S7 ⟨by decide, by decide⟩
  have hat7 : cl7.slots[((0 : Int32)).toNatClampNeg]? = some (.int p3) := Hs7.at hin7 rfl
  obtain ⟨fs, hr, hrun, hended, hW, hsame⟩ := X0.leave (v := some (.int (0 : Int32))) (fun h => by rw [Bd.returns] at h; cases h)
  refine ⟨_, _, pre0 _ ?_, hrun, hended, _, _, rfl, ?_, ⟨_, rfl⟩, hW, hsame.mono (by decide) (by decide)⟩
  · show SS p e below s₁ m 0 #[rv a1, iv (0 : Int32), rv a2, iv (0 : Int32), iv (3 : Int32), .unset, .unset] [] _
    refine XS.iconst X0.here hx rfl (hb hby d6_0) ?_
    refine XS.istore X0.here hx rfl (hb hby d6_1) rfl (l' := #[rv a1, iv (0 : Int32), rv a2, iv (0 : Int32), iv (3 : Int32), iv (0 : Int32), .unset]) rfl ?_
    refine XS.iload X0.here hx rfl (hb hby d6_3) rfl ?_
    refine XS.iload X0.here hx rfl (hb hby d6_5) rfl ?_
    show SS p e below s₁ m 7 #[rv a1, iv (0 : Int32), rv a2, iv (0 : Int32), iv (3 : Int32), iv (0 : Int32), .unset] [(.int (3 : Int32)), (.int (0 : Int32))] _
    refine XS.icmpNo X0.here hx rfl (hb hby d6_7) rfl (tlt (by decide : (0 : Int32) < (3 : Int32))).2.1 ?_
    show SS p e below s₁ m 10 #[rv a1, iv (0 : Int32), rv a2, iv (0 : Int32), iv (3 : Int32), iv (0 : Int32), .unset] [] _
    refine XS.aloadN X0.here hx rfl (hb hby d6_10) rfl rfl ?_
    refine XS.iloadN X0.here hx rfl (hb hby d6_11) rfl ?_
    show SS p e below s₁ m 12 #[rv a1, iv (0 : Int32), rv a2, iv (0 : Int32), iv (3 : Int32), iv (0 : Int32), .unset] [(.int (0 : Int32)), (.ref a1)] _
    refine X0.caload hx (j := (0 : Int32)) (v := (.int p3)) (by rw [e0]; exact Ar7.1) (State.isArrayOf_alike hZ.alike Ar7.2.1) Ar7.2.2 hin7 hat7 (g := (mkF m 12 #[rv a1, iv (0 : Int32), rv a2, iv (0 : Int32), iv (3 : Int32), iv (0 : Int32), .unset] [(.int (0 : Int32)), (.ref a1)])) rfl rfl (hb hby d6_12) _ ?_
    show SS p e below s₁ m 13 #[rv a1, iv (0 : Int32), rv a2, iv (0 : Int32), iv (3 : Int32), iv (0 : Int32), .unset] [(.int p3)] _
    refine XS.istore X0.here hx rfl (hb hby d6_13) rfl (l' := #[rv a1, iv (0 : Int32), rv a2, iv (0 : Int32), iv (3 : Int32), iv (0 : Int32), iv p3]) rfl ?_
    refine XS.iload X0.here hx rfl (hb hby d6_15) rfl ?_
    refine XS.sipush X0.here hx rfl (hb hby d6_17) ?_
    show SS p e below s₁ m 20 #[rv a1, iv (0 : Int32), rv a2, iv (0 : Int32), iv (3 : Int32), iv (0 : Int32), iv p3] [(.int (255 : Int32)), (.int p3)] _
    refine XS.icmpNo X0.here hx rfl (hb hby d6_20) rfl (tlt pr2).2.2.2 ?_
    show SS p e below s₁ m 23 #[rv a1, iv (0 : Int32), rv a2, iv (0 : Int32), iv (3 : Int32), iv (0 : Int32), iv p3] [] _
    refine XS.iload X0.here hx rfl (hb hby d6_23) rfl ?_
    show SS p e below s₁ m 25 #[rv a1, iv (0 : Int32), rv a2, iv (0 : Int32), iv (3 : Int32), iv (0 : Int32), iv p3] [(.int (0 : Int32))] _
    exact retI X0 hx Bd.returns (hb hby d6_25) hr
  · show Q_rm6_3 Z a1 a2 p3 p4 p5 k6 h0 n0 _ s₁.heap _
    rw [e0]
    exact ⟨rfl, N0, rfl⟩
theorem ef_16_29 (m : MethodId)  : entryFrame m #[(.int (3 : Int32))] 1 = mkF m 0 #[.val (.int (3 : Int32))] [] := by first | (simp [entryFrame, mkF, argsToLocals, Value.category]; done) | rfl
def Q_rm16_1 (Z : State)  (h0 : Heap) (n0 : Nat) (v : Option Value) (h : Heap) (L : List Loc) : Prop := v = some (.int (6 : Int32)) ∧ Fr n0 L ∧ h = h0
set_option maxRecDepth 65536 in
set_option maxHeartbeats 40000000 in
theorem rm16_1 (l : Launch) (Z : State) (a0 : Array Value) (hw : ∀ d ∈ tables_1, d.before a0 Z = true) (ws : List Jvm.Cond)  (h0 : Heap) (n0 : Nat) (OL0 : Old Z n0 h0)  :
    MetFree l mn16 (head1 (Jvm.Cond.code mn16 jdk_52_method_3_code 1 (some .int) :: ws) ({ frames := 0, cells := 0, slots := 0, locals := 0 } : Room)) (fun a U => a = #[(.int (3 : Int32))] ∧ Z.Warmed39 U.vm ∧ U.heap = h0) (fun _ _ _ _ _ => True) (fun _ U o U' => ∃ v L, o = .returned v ∧ Q_rm16_1 Z  h0 n0 v U'.heap L ∧ FrameEnd U o U' L ({ frames := 0, cells := 0, slots := 0, locals := 0 } : Room).cells ({ frames := 0, cells := 0, slots := 0, locals := 0 } : Room).slots) := by
  refine MetFree.of_bodySF (plainFor_of_name pn_6) hisR ?_
  intro p e s m args below meth c s₁ Bd hml0 hP hK
  obtain ⟨rfl, hZ, hh⟩ := hP
  have hx := Bd.exec
  have hby := Bd.bytes
  have hml : c.maxLocals = 1 := hml0
  have hown : s.vm.findClass "java/lang/StringUTF16" = some m.cls := findClass_of_methodNamed Bd.named
  have hnm := (name_of_methodNamed Bd.named Bd.method).1
  have X0 : Stand p l e ({ frames := 0, cells := 0, slots := 0, locals := 0 } : Room) s m #[(.int (3 : Int32))] below meth c s₁ [] 0 0 := Stand.of_body Bd
  have e0 : s₁.heap = h0 := by rw [← hh, Bd.state]; rfl
  have N0 := Fr.nil n0
  have pre0 : ∀ t, SS p e below s₁ m 0 #[iv (3 : Int32)] [] t → Steps p.tables e below (s₁.setTop (entryFrame m #[(.int (3 : Int32))] 1)) t := fun t k => castTop (ef_16_29 m ) k
  obtain ⟨fs, hr, hrun, hended, hW, hsame⟩ := X0.leave (v := some (.int (6 : Int32))) (fun h => by rw [Bd.returns] at h; cases h)
  refine ⟨_, _, pre0 _ ?_, hrun, hended, _, _, rfl, ?_, ⟨_, rfl⟩, hW, hsame.mono (by decide) (by decide)⟩
  · show SS p e below s₁ m 0 #[iv (3 : Int32)] [] _
    refine XS.iloadN X0.here hx rfl (hb hby d16_0) rfl ?_
    show SS p e below s₁ m 1 #[iv (3 : Int32)] [(.int (3 : Int32))] _
    refine XS.ifYes X0.here hx rfl (pc0 := 1) (pc' := 12) rfl (hb hby d16_1) rfl ((if0 _ _).trans (flt (by decide : ¬ ((3 : Int32) < (0 : Int32)))).2.1) (by decide) (by decide) ?_
    show SS p e below s₁ m 12 #[iv (3 : Int32)] [] _
    refine XS.iloadN X0.here hx rfl (hb hby d16_12) rfl ?_
    refine X0.ldcInt hx hown (mvT hZ (wd88 hw)) (g := (mkF m 13 #[iv (3 : Int32)] [(.int (3 : Int32))])) rfl (hb hby d16_13) _ ?_
    show SS p e below s₁ m 15 #[iv (3 : Int32)] [(.int (1073741823 : Int32)), (.int (3 : Int32))] _
    refine XS.icmpYes X0.here hx rfl (pc0 := 15) (pc' := 55) rfl (hb hby d16_15) rfl (tlt (by decide : (3 : Int32) < (1073741823 : Int32))).1 (by decide) (by decide) ?_
    show SS p e below s₁ m 55 #[iv (3 : Int32)] [] _
    refine XS.iloadN X0.here hx rfl (hb hby d16_55) rfl ?_
    refine XS.iconst X0.here hx rfl (hb hby d16_56) ?_
    show SS p e below s₁ m 57 #[iv (3 : Int32)] [(.int (1 : Int32)), (.int (3 : Int32))] _
    refine XS.ishl X0.here hx rfl (hb hby d16_57) rfl ?_
    show SS p e below s₁ m 58 #[iv (3 : Int32)] [(.int (6 : Int32))] _
    exact retI X0 hx Bd.returns (hb hby d16_58) hr
  · show Q_rm16_1 Z  h0 n0 _ s₁.heap _
    rw [e0]
    exact ⟨rfl, N0, rfl⟩
theorem ef_15_30 (m : MethodId)  : entryFrame m #[(.int (3 : Int32))] 1 = mkF m 0 #[.val (.int (3 : Int32))] [] := by first | (simp [entryFrame, mkF, argsToLocals, Value.category]; done) | rfl
def Q_rm15_1 (Z : State)  (h0 : Heap) (n0 : Nat) (v : Option Value) (h : Heap) (L : List Loc) : Prop := ∃ b2 : Addr, ∃ k2 : ClassId, v = some (.ref b2) ∧ Fr n0 L ∧ Keep h0 h [] ∧ h0.size ≤ b2 ∧ Arv Z h b2 k2 .byte (6 : Int32) [(.int (0 : Int32)), (.int (0 : Int32)), (.int (0 : Int32)), (.int (0 : Int32)), (.int (0 : Int32)), (.int (0 : Int32))] (.int (0 : Int32))
set_option maxRecDepth 65536 in
set_option maxHeartbeats 40000000 in
theorem rm15_1 (l : Launch) (Z : State) (a0 : Array Value) (hw : ∀ d ∈ tables_1, d.before a0 Z = true) (ws : List Jvm.Cond)  (h0 : Heap) (n0 : Nat) (OL0 : Old Z n0 h0)  :
    MetFree l mn15 (head1 (Jvm.Cond.code mn15 jdk_52_method_2_code 1 (some (.array .byte)) :: ws) ({ frames := 1, cells := 1, slots := 6, locals := 12 } : Room)) (fun a U => a = #[(.int (3 : Int32))] ∧ Z.Warmed39 U.vm ∧ U.heap = h0) (fun _ _ _ _ _ => True) (fun _ U o U' => ∃ v L, o = .returned v ∧ Q_rm15_1 Z  h0 n0 v U'.heap L ∧ FrameEnd U o U' L ({ frames := 1, cells := 1, slots := 6, locals := 12 } : Room).cells ({ frames := 1, cells := 1, slots := 6, locals := 12 } : Room).slots) := by
  refine MetFree.of_bodySF (plainFor_of_name pn_6) hisR ?_
  intro p e s m args below meth c s₁ Bd hml0 hP hK
  obtain ⟨rfl, hZ, hh⟩ := hP
  have hx := Bd.exec
  have hby := Bd.bytes
  have hml : c.maxLocals = 1 := hml0
  have hown : s.vm.findClass "java/lang/StringUTF16" = some m.cls := findClass_of_methodNamed Bd.named
  have hnm := (name_of_methodNamed Bd.named Bd.method).1
  have X0 : Stand p l e ({ frames := 1, cells := 1, slots := 6, locals := 12 } : Room) s m #[(.int (3 : Int32))] below meth c s₁ [] 0 0 := Stand.of_body Bd
  have e0 : s₁.heap = h0 := by rw [← hh, Bd.state]; rfl
  have N0 := Fr.nil n0
  have pre0 : ∀ t, SS p e below s₁ m 0 #[iv (3 : Int32)] [] t → Steps p.tables e below (s₁.setTop (entryFrame m #[(.int (3 : Int32))] 1)) t := fun t k => castTop (ef_15_30 m ) k
  obtain ⟨_, _, ⟨T1, L1, k1, n1⟩, -, X1, ⟨Lc1, hQ1, l1, y1, z1⟩, st1⟩ := Jvm.LawKit.callS X0 hx (y := mn16) hown (mvT hZ (wd85 hw)) (mvT hZ (wd86 hw)) (mvT hZ (wd22 hw)) (mvT hZ (wd87 hw)) (by decide) (backOf (W := 0) (rm16_1 l Z a0 hw []  h0 n0 OL0 ) hZ (wd87 hw) (wd22 hw) (by decide) (by decide)) (g := (mkF m 1 #[iv (3 : Int32)] [(.int (3 : Int32))])) rfl (by rw [hml]; rfl) (argsL := [(.int (3 : Int32))]) (rest := []) (lenOf pd_15 rfl) rfl (by show 2 * 0 + _ ≤ _; exact Nat.le_of_eq rfl) (hb hby d15_1) (fun _ _ => ⟨rfl, e0, (by decide : 0 + 0 ≤ _), (by decide : 0 + 0 ≤ _)⟩)
  dsimp only [Pt.U, Pt.locs, Pt.cells, Pt.slots] at X1 l1 y1 z1 st1 hQ1
  subst l1 y1 z1
  obtain ⟨rfl, Nq1, ec1⟩ := hQ1
  have N1 := Fr.app N0 Nq1
  obtain ⟨T2, h2, k2, X2, e2, E2, A2, st2⟩ := newP (aty := .byte) X1 hx hZ (wd24 hw) ec1 (g := (mkF m 4 #[iv (3 : Int32)] [(.int (6 : Int32))])) rfl (hb hby d15_4) rfl (by decide) (cap := 6) (by decide) (by decide) (by decide) (by decide)
  obtain ⟨b2, g2⟩ : ∃ z, z = h0.size := ⟨_, rfl⟩
  rw [← g2] at A2 st2
  have V2 : Arv Z h2 b2 k2 .byte (6 : Int32) [(.int (0 : Int32)), (.int (0 : Int32)), (.int (0 : Int32)), (.int (0 : Int32)), (.int (0 : Int32)), (.int (0 : Int32))] (.int (0 : Int32)) := (Arv.new A2 (by decide)).pad (pad_rep [] (.int (0 : Int32)) 6)
  have g_b2 : n0 ≤ b2 := (Nat.le_trans (Nat.le_trans (Nat.le_of_eq OL0.1.symm) OL0.2.1) (Nat.le_of_eq g2.symm))
  have sz_b2 : h0.size ≤ b2 := (Nat.le_trans (Keep.refl h0 []).1 (Nat.le_of_eq g2.symm))
  have KK2 : Keep h0 h2 [] := (Keep.refl h0 []).ext E2
  have OL2 := OL0.ext E2
  obtain ⟨fs, hr, hrun, hended, hW, hsame⟩ := X2.leave (v := some (.ref b2)) (fun h => by rw [Bd.returns] at h; cases h)
  refine ⟨_, _, pre0 _ ?_, hrun, hended, _, _, rfl, ?_, ⟨_, rfl⟩, hW, hsame.mono (by decide) (by decide)⟩
  · show SS p e below s₁ m 0 #[iv (3 : Int32)] [] _
    refine XS.iloadN X0.here hx rfl (hb hby d15_0) rfl ?_
    show SS p e below s₁ m 1 #[iv (3 : Int32)] [(.int (3 : Int32))] _
    refine st1 _ ?_
    show SS p e below T1 m 4 #[iv (3 : Int32)] [(.int (6 : Int32))] _
    refine st2 _ ?_
    show SS p e below T2 m 6 #[iv (3 : Int32)] [(.ref b2)] _
    jvm_step X2.here [X2.here.top, hx, (hb hby d15_6), X2.method', Bd.returns, Value.isRef, FieldType.isReference]
    first | (intro acts; rw [hr _ acts rfl rfl rfl]) | rw [hr _ _ rfl rfl rfl]
    exact Steps.refl _
  · show Q_rm15_1 Z  h0 n0 _ T2.heap _
    rw [e2]
    exact ⟨b2, k2, rfl, N1, KK2, sz_b2, V2⟩
def Q_rm17_3 (Z : State) (a1 : Addr) (p2 : Int32) (k5 : ClassId) (h0 : Heap) (n0 : Nat) (v : Option Value) (h : Heap) (L : List Loc) : Prop := v = none ∧ Fr n0 L ∧ Keep h0 h [a1] ∧ Arv Z h a1 k5 .byte (6 : Int32) [(.int (((p2 >>> ((0 : Int32) &&& 31)).toInt8.toInt32).toInt8.toInt32)), (.int (((p2 >>> ((8 : Int32) &&& 31)).toInt8.toInt32).toInt8.toInt32)), (.int (0 : Int32)), (.int (0 : Int32)), (.int (0 : Int32)), (.int (0 : Int32))] (.int (0 : Int32))
set_option maxRecDepth 65536 in
set_option maxHeartbeats 40000000 in
theorem rm17_3 (l : Launch) (Z : State) (a0 : Array Value) (hw : ∀ d ∈ tables_1, d.before a0 Z = true) (ws : List Jvm.Cond) (a1 : Addr) (p2 : Int32) (k5 : ClassId) (h0 : Heap) (n0 : Nat) (OL0 : Old Z n0 h0) (pr1 : Sta Z Z.heap "java/lang/StringUTF16" "$assertionsDisabled" "Z" (.int (1 : Int32))) (pr2 : Sta Z Z.heap "java/lang/StringUTF16" "HI_BYTE_SHIFT" "I" (.int (0 : Int32))) (pr3 : Arv Z h0 a1 k5 .byte (6 : Int32) [(.int (0 : Int32)), (.int (0 : Int32)), (.int (0 : Int32)), (.int (0 : Int32)), (.int (0 : Int32)), (.int (0 : Int32))] (.int (0 : Int32))) (pr4 : n0 ≤ a1) (pr5 : Sta Z Z.heap "java/lang/StringUTF16" "LO_BYTE_SHIFT" "I" (.int (8 : Int32))) :
    MetFree l mn17 (head1 (Jvm.Cond.code mn17 jdk_52_method_4_code 3 none :: ws) ({ frames := 0, cells := 0, slots := 0, locals := 0 } : Room)) (fun a U => a = #[(.ref a1), (.int (0 : Int32)), (.int p2)] ∧ Z.Warmed39 U.vm ∧ U.heap = h0) (fun _ _ _ _ _ => True) (fun _ U o U' => ∃ v L, o = .returned v ∧ Q_rm17_3 Z a1 p2 k5 h0 n0 v U'.heap L ∧ FrameEnd U o U' L ({ frames := 0, cells := 0, slots := 0, locals := 0 } : Room).cells ({ frames := 0, cells := 0, slots := 0, locals := 0 } : Room).slots) := by
  refine MetFree.of_bodySF (plainFor_of_name pn_6) hisR ?_
  intro p e s m args below meth c s₁ Bd hml0 hP hK
  obtain ⟨rfl, hZ, hh⟩ := hP
  have hx := Bd.exec
  have hby := Bd.bytes
  have hml : c.maxLocals = 3 := hml0
  have hown : s.vm.findClass "java/lang/StringUTF16" = some m.cls := findClass_of_methodNamed Bd.named
  have hnm := (name_of_methodNamed Bd.named Bd.method).1
  have X0 : Stand p l e ({ frames := 0, cells := 0, slots := 0, locals := 0 } : Room) s m #[(.ref a1), (.int (0 : Int32)), (.int p2)] below meth c s₁ [] 0 0 := Stand.of_body Bd
  have e0 : s₁.heap = h0 := by rw [← hh, Bd.state]; rfl
  have N0 := Fr.nil n0
  have pre0 : ∀ t, SS p e below s₁ m 0 #[rv a1, iv (0 : Int32), iv p2] [] t → Steps p.tables e below (s₁.setTop (entryFrame m #[(.ref a1), (.int (0 : Int32)), (.int p2)] 3)) t := fun t k => castTop (ef_17_10 m a1 p2) k
  obtain ⟨T3, X3, e3, st3⟩ := getS2 X0 hx hZ hown (host := "") (Or.inl (wd92 hw)) Via.refl e0 (pr1.ext OL0.2) (g := (mkF m 0 #[rv a1, iv (0 : Int32), iv p2] [])) rfl (hb hby d17_0)
  obtain ⟨T4, X4, e4, st4⟩ := getS2 X3 hx hZ hown (host := "") (Or.inl (wd93 hw)) Via.refl e3 (pr2.ext OL0.2) (g := (mkF m 38 #[rv a1, iv (1 : Int32), iv p2] [(.int p2), (.int (0 : Int32)), (.ref a1)])) rfl (hb hby d17_38)
  obtain ⟨cl6, Ar6, q6, S6, M6, Hs6, G6⟩ := id pr3
  have hin6 : ¬ ((0 : Int32) < 0 ∨ cl6.slots.size ≤ ((0 : Int32)).toNatClampNeg) := inb_of S6 ⟨by decide, by decide⟩
  obtain ⟨T7, h7, X7, e7, W7, st7⟩ := stB X4 hx hZ e4 Ar6 (j := (0 : Int32)) hin6 (g := (mkF m 43 #[rv a1, iv (1 : Int32), iv p2] [(.int ((p2 >>> ((0 : Int32) &&& 31)).toInt8.toInt32)), (.int (0 : Int32)), (.ref a1)])) rfl rfl (hb hby d17_43)
  have V7 : Arv Z h7 a1 k5 .byte (6 : Int32) [(.int (((p2 >>> ((0 : Int32) &&& 31)).toInt8.toInt32).toInt8.toInt32)), (.int (0 : Int32)), (.int (0 : Int32)), (.int (0 : Int32)), (.int (0 : Int32)), (.int (0 : Int32))] (.int (0 : Int32)) := Arv.set Ar6 q6 S6 M6 Hs6 G6 (fits_nar_byte _) W7 0 rfl (Nat.le_of_ble_eq_true rfl)
  have KK7 : Keep h0 h7 [a1] := (Keep.refl h0 [a1]).wr W7 (Or.inl (List.mem_of_getElem? (i := 0) rfl))
  have OL7 := OL0.wr W7 pr4
  have N7 := Fr.snoc X7 N0 pr4
  obtain ⟨T8, X8, e8, st8⟩ := getS2 X7 hx hZ hown (host := "") (Or.inl (wd94 hw)) Via.refl e7 (pr5.ext OL7.2) (g := (mkF m 47 #[rv a1, iv (1 : Int32), iv p2] [(.int p2), (.int (1 : Int32)), (.ref a1)])) rfl (hb hby d17_47)
  obtain ⟨cl9, Ar9, q9, S9, M9, Hs9, G9⟩ := id V7
  have hin9 : ¬ ((1 : Int32) < 0 ∨ cl9.slots.size ≤ ((1 : Int32)).toNatClampNeg) := inb_of S9 ⟨by decide, by decide⟩
  obtain ⟨T10, h10, X10, e10, W10, st10⟩ := stB X8 hx hZ e8 Ar9 (j := (1 : Int32)) hin9 (g := (mkF m 52 #[rv a1, iv (1 : Int32), iv p2] [(.int ((p2 >>> ((8 : Int32) &&& 31)).toInt8.toInt32)), (.int (1 : Int32)), (.ref a1)])) rfl rfl (hb hby d17_52)
  have V10 : Arv Z h10 a1 k5 .byte (6 : Int32) [(.int (((p2 >>> ((0 : Int32) &&& 31)).toInt8.toInt32).toInt8.toInt32)), (.int (((p2 >>> ((8 : Int32) &&& 31)).toInt8.toInt32).toInt8.toInt32)), (.int (0 : Int32)), (.int (0 : Int32)), (.int (0 : Int32)), (.int (0 : Int32))] (.int (0 : Int32)) := Arv.set Ar9 q9 S9 M9 Hs9 G9 (fits_nar_byte _) W10 1 rfl (Nat.le_of_ble_eq_true rfl)
  have KK10 : Keep h0 h10 [a1] := KK7.wr W10 (Or.inl (List.mem_of_getElem? (i := 0) rfl))
  have OL10 := OL7.wr W10 pr4
  have N10 := Fr.snoc X10 N7 pr4
  obtain ⟨fs, hr, hrun, hended, hW, hsame⟩ := X10.leave (v := none) (fun _ => rfl)
  refine ⟨_, _, pre0 _ ?_, hrun, hended, _, _, rfl, ?_, ⟨_, rfl⟩, hW, hsame.mono (by decide) (by decide)⟩
  · show SS p e below s₁ m 0 #[rv a1, iv (0 : Int32), iv p2] [] _
    refine st3 _ ?_
    show SS p e below T3 m 3 #[rv a1, iv (0 : Int32), iv p2] [(.int (1 : Int32))] _
    refine XS.ifYes X3.here hx rfl (pc0 := 3) (pc' := 28) rfl (hb hby d17_3) rfl ((if0 _ _).trans (feq (by decide : ¬ ((1 : Int32) = (0 : Int32)))).2) (by decide) (by decide) ?_
    show SS p e below T3 m 28 #[rv a1, iv (0 : Int32), iv p2] [] _
    refine XS.iloadN X3.here hx rfl (hb hby d17_28) rfl ?_
    refine XS.iconst X3.here hx rfl (hb hby d17_29) ?_
    show SS p e below T3 m 30 #[rv a1, iv (0 : Int32), iv p2] [(.int (1 : Int32)), (.int (0 : Int32))] _
    refine XS.ishl X3.here hx rfl (hb hby d17_30) rfl ?_
    show SS p e below T3 m 31 #[rv a1, iv (0 : Int32), iv p2] [(.int (0 : Int32))] _
    refine XS.istoreN X3.here hx rfl (hb hby d17_31) rfl (l' := #[rv a1, iv (0 : Int32), iv p2]) rfl ?_
    refine XS.aloadN X3.here hx rfl (hb hby d17_32) rfl rfl ?_
    refine XS.iloadN X3.here hx rfl (hb hby d17_33) rfl ?_
    show SS p e below T3 m 34 #[rv a1, iv (0 : Int32), iv p2] [(.int (0 : Int32)), (.ref a1)] _
    refine XS.iinc X3.here hx rfl (hb hby d17_34) rfl (l' := #[rv a1, .val (.int ((0 : Int32) + (1 : Int32))), iv p2]) rfl ?_
    show SS p e below T3 m 37 #[rv a1, iv (1 : Int32), iv p2] [(.int (0 : Int32)), (.ref a1)] _
    refine XS.iloadN X3.here hx rfl (hb hby d17_37) rfl ?_
    show SS p e below T3 m 38 #[rv a1, iv (1 : Int32), iv p2] [(.int p2), (.int (0 : Int32)), (.ref a1)] _
    refine st4 _ ?_
    show SS p e below T4 m 41 #[rv a1, iv (1 : Int32), iv p2] [(.int (0 : Int32)), (.int p2), (.int (0 : Int32)), (.ref a1)] _
    refine XS.ishr X4.here hx rfl (hb hby d17_41) rfl ?_
    show SS p e below T4 m 42 #[rv a1, iv (1 : Int32), iv p2] [(.int (p2 >>> ((0 : Int32) &&& 31))), (.int (0 : Int32)), (.ref a1)] _
    refine XS.i2b X4.here hx rfl (hb hby d17_42) rfl ?_
    show SS p e below T4 m 43 #[rv a1, iv (1 : Int32), iv p2] [(.int ((p2 >>> ((0 : Int32) &&& 31)).toInt8.toInt32)), (.int (0 : Int32)), (.ref a1)] _
    refine st7 _ ?_
    show SS p e below T7 m 44 #[rv a1, iv (1 : Int32), iv p2] [] _
    refine XS.aloadN X7.here hx rfl (hb hby d17_44) rfl rfl ?_
    refine XS.iloadN X7.here hx rfl (hb hby d17_45) rfl ?_
    refine XS.iloadN X7.here hx rfl (hb hby d17_46) rfl ?_
    show SS p e below T7 m 47 #[rv a1, iv (1 : Int32), iv p2] [(.int p2), (.int (1 : Int32)), (.ref a1)] _
    refine st8 _ ?_
    show SS p e below T8 m 50 #[rv a1, iv (1 : Int32), iv p2] [(.int (8 : Int32)), (.int p2), (.int (1 : Int32)), (.ref a1)] _
    refine XS.ishr X8.here hx rfl (hb hby d17_50) rfl ?_
    show SS p e below T8 m 51 #[rv a1, iv (1 : Int32), iv p2] [(.int (p2 >>> ((8 : Int32) &&& 31))), (.int (1 : Int32)), (.ref a1)] _
    refine XS.i2b X8.here hx rfl (hb hby d17_51) rfl ?_
    show SS p e below T8 m 52 #[rv a1, iv (1 : Int32), iv p2] [(.int ((p2 >>> ((8 : Int32) &&& 31)).toInt8.toInt32)), (.int (1 : Int32)), (.ref a1)] _
    refine st10 _ ?_
    show SS p e below T10 m 53 #[rv a1, iv (1 : Int32), iv p2] [] _
    exact X10.returnOut hx Bd.returns (hb hby d17_53) hr
  · show Q_rm17_3 Z a1 p2 k5 h0 n0 _ T10.heap _
    rw [e10]
    exact ⟨rfl, N10, KK10, V10⟩
def Q_rm17_4 (Z : State) (a1 : Addr) (p2 : Int32) (p5 : Int32) (p6 : Int32) (k7 : ClassId) (h0 : Heap) (n0 : Nat) (v : Option Value) (h : Heap) (L : List Loc) : Prop := v = none ∧ Fr n0 L ∧ Keep h0 h [a1] ∧ Arv Z h a1 k7 .byte (6 : Int32) [(.int p5), (.int p6), (.int (((p2 >>> ((0 : Int32) &&& 31)).toInt8.toInt32).toInt8.toInt32)), (.int (((p2 >>> ((8 : Int32) &&& 31)).toInt8.toInt32).toInt8.toInt32)), (.int (0 : Int32)), (.int (0 : Int32))] (.int (0 : Int32))
set_option maxRecDepth 65536 in
set_option maxHeartbeats 40000000 in
theorem rm17_4 (l : Launch) (Z : State) (a0 : Array Value) (hw : ∀ d ∈ tables_1, d.before a0 Z = true) (ws : List Jvm.Cond) (a1 : Addr) (p2 : Int32) (p5 : Int32) (p6 : Int32) (k7 : ClassId) (h0 : Heap) (n0 : Nat) (OL0 : Old Z n0 h0) (pr1 : Sta Z Z.heap "java/lang/StringUTF16" "$assertionsDisabled" "Z" (.int (1 : Int32))) (pr2 : Sta Z Z.heap "java/lang/StringUTF16" "HI_BYTE_SHIFT" "I" (.int (0 : Int32))) (pr3 : Arv Z h0 a1 k7 .byte (6 : Int32) [(.int p5), (.int p6), (.int (0 : Int32)), (.int (0 : Int32)), (.int (0 : Int32)), (.int (0 : Int32))] (.int (0 : Int32))) (pr4 : n0 ≤ a1) (pr5 : Sta Z Z.heap "java/lang/StringUTF16" "LO_BYTE_SHIFT" "I" (.int (8 : Int32))) :
    MetFree l mn17 (head1 (Jvm.Cond.code mn17 jdk_52_method_4_code 3 none :: ws) ({ frames := 0, cells := 0, slots := 0, locals := 0 } : Room)) (fun a U => a = #[(.ref a1), (.int (1 : Int32)), (.int p2)] ∧ Z.Warmed39 U.vm ∧ U.heap = h0) (fun _ _ _ _ _ => True) (fun _ U o U' => ∃ v L, o = .returned v ∧ Q_rm17_4 Z a1 p2 p5 p6 k7 h0 n0 v U'.heap L ∧ FrameEnd U o U' L ({ frames := 0, cells := 0, slots := 0, locals := 0 } : Room).cells ({ frames := 0, cells := 0, slots := 0, locals := 0 } : Room).slots) := by
  refine MetFree.of_bodySF (plainFor_of_name pn_6) hisR ?_
  intro p e s m args below meth c s₁ Bd hml0 hP hK
  obtain ⟨rfl, hZ, hh⟩ := hP
  have hx := Bd.exec
  have hby := Bd.bytes
  have hml : c.maxLocals = 3 := hml0
  have hown : s.vm.findClass "java/lang/StringUTF16" = some m.cls := findClass_of_methodNamed Bd.named
  have hnm := (name_of_methodNamed Bd.named Bd.method).1
  have X0 : Stand p l e ({ frames := 0, cells := 0, slots := 0, locals := 0 } : Room) s m #[(.ref a1), (.int (1 : Int32)), (.int p2)] below meth c s₁ [] 0 0 := Stand.of_body Bd
  have e0 : s₁.heap = h0 := by rw [← hh, Bd.state]; rfl
  have N0 := Fr.nil n0
  have pre0 : ∀ t, SS p e below s₁ m 0 #[rv a1, iv (1 : Int32), iv p2] [] t → Steps p.tables e below (s₁.setTop (entryFrame m #[(.ref a1), (.int (1 : Int32)), (.int p2)] 3)) t := fun t k => castTop (ef_17_20 m a1 p2) k
  obtain ⟨T3, X3, e3, st3⟩ := getS2 X0 hx hZ hown (host := "") (Or.inl (wd92 hw)) Via.refl e0 (pr1.ext OL0.2) (g := (mkF m 0 #[rv a1, iv (1 : Int32), iv p2] [])) rfl (hb hby d17_0)
  obtain ⟨T4, X4, e4, st4⟩ := getS2 X3 hx hZ hown (host := "") (Or.inl (wd93 hw)) Via.refl e3 (pr2.ext OL0.2) (g := (mkF m 38 #[rv a1, iv (3 : Int32), iv p2] [(.int p2), (.int (2 : Int32)), (.ref a1)])) rfl (hb hby d17_38)
  obtain ⟨cl8, Ar8, q8, S8, M8, Hs8, G8⟩ := id pr3
  have hin8 : ¬ ((2 : Int32) < 0 ∨ cl8.slots.size ≤ ((2 : Int32)).toNatClampNeg) := inb_of S8 ⟨by decide, by decide⟩
  obtain ⟨T9, h9, X9, e9, W9, st9⟩ := stB X4 hx hZ e4 Ar8 (j := (2 : Int32)) hin8 (g := (mkF m 43 #[rv a1, iv (3 : Int32), iv p2] [(.int ((p2 >>> ((0 : Int32) &&& 31)).toInt8.toInt32)), (.int (2 : Int32)), (.ref a1)])) rfl rfl (hb hby d17_43)
  have V9 : Arv Z h9 a1 k7 .byte (6 : Int32) [(.int p5), (.int p6), (.int (((p2 >>> ((0 : Int32) &&& 31)).toInt8.toInt32).toInt8.toInt32)), (.int (0 : Int32)), (.int (0 : Int32)), (.int (0 : Int32))] (.int (0 : Int32)) := Arv.set Ar8 q8 S8 M8 Hs8 G8 (fits_nar_byte _) W9 2 rfl (Nat.le_of_ble_eq_true rfl)
  have KK9 : Keep h0 h9 [a1] := (Keep.refl h0 [a1]).wr W9 (Or.inl (List.mem_of_getElem? (i := 0) rfl))
  have OL9 := OL0.wr W9 pr4
  have N9 := Fr.snoc X9 N0 pr4
  obtain ⟨T10, X10, e10, st10⟩ := getS2 X9 hx hZ hown (host := "") (Or.inl (wd94 hw)) Via.refl e9 (pr5.ext OL9.2) (g := (mkF m 47 #[rv a1, iv (3 : Int32), iv p2] [(.int p2), (.int (3 : Int32)), (.ref a1)])) rfl (hb hby d17_47)
  obtain ⟨cl11, Ar11, q11, S11, M11, Hs11, G11⟩ := id V9
  have hin11 : ¬ ((3 : Int32) < 0 ∨ cl11.slots.size ≤ ((3 : Int32)).toNatClampNeg) := inb_of S11 ⟨by decide, by decide⟩
  obtain ⟨T12, h12, X12, e12, W12, st12⟩ := stB X10 hx hZ e10 Ar11 (j := (3 : Int32)) hin11 (g := (mkF m 52 #[rv a1, iv (3 : Int32), iv p2] [(.int ((p2 >>> ((8 : Int32) &&& 31)).toInt8.toInt32)), (.int (3 : Int32)), (.ref a1)])) rfl rfl (hb hby d17_52)
  have V12 : Arv Z h12 a1 k7 .byte (6 : Int32) [(.int p5), (.int p6), (.int (((p2 >>> ((0 : Int32) &&& 31)).toInt8.toInt32).toInt8.toInt32)), (.int (((p2 >>> ((8 : Int32) &&& 31)).toInt8.toInt32).toInt8.toInt32)), (.int (0 : Int32)), (.int (0 : Int32))] (.int (0 : Int32)) := Arv.set Ar11 q11 S11 M11 Hs11 G11 (fits_nar_byte _) W12 3 rfl (Nat.le_of_ble_eq_true rfl)
  have KK12 : Keep h0 h12 [a1] := KK9.wr W12 (Or.inl (List.mem_of_getElem? (i := 0) rfl))
  have OL12 := OL9.wr W12 pr4
  have N12 := Fr.snoc X12 N9 pr4
  obtain ⟨fs, hr, hrun, hended, hW, hsame⟩ := X12.leave (v := none) (fun _ => rfl)
  refine ⟨_, _, pre0 _ ?_, hrun, hended, _, _, rfl, ?_, ⟨_, rfl⟩, hW, hsame.mono (by decide) (by decide)⟩
  · show SS p e below s₁ m 0 #[rv a1, iv (1 : Int32), iv p2] [] _
    refine st3 _ ?_
    show SS p e below T3 m 3 #[rv a1, iv (1 : Int32), iv p2] [(.int (1 : Int32))] _
    refine XS.ifYes X3.here hx rfl (pc0 := 3) (pc' := 28) rfl (hb hby d17_3) rfl ((if0 _ _).trans (feq (by decide : ¬ ((1 : Int32) = (0 : Int32)))).2) (by decide) (by decide) ?_
    show SS p e below T3 m 28 #[rv a1, iv (1 : Int32), iv p2] [] _
    refine XS.iloadN X3.here hx rfl (hb hby d17_28) rfl ?_
    refine XS.iconst X3.here hx rfl (hb hby d17_29) ?_
    show SS p e below T3 m 30 #[rv a1, iv (1 : Int32), iv p2] [(.int (1 : Int32)), (.int (1 : Int32))] _
    refine XS.ishl X3.here hx rfl (hb hby d17_30) rfl ?_
    show SS p e below T3 m 31 #[rv a1, iv (1 : Int32), iv p2] [(.int (2 : Int32))] _
    refine XS.istoreN X3.here hx rfl (hb hby d17_31) rfl (l' := #[rv a1, iv (2 : Int32), iv p2]) rfl ?_
    refine XS.aloadN X3.here hx rfl (hb hby d17_32) rfl rfl ?_
    refine XS.iloadN X3.here hx rfl (hb hby d17_33) rfl ?_
    show SS p e below T3 m 34 #[rv a1, iv (2 : Int32), iv p2] [(.int (2 : Int32)), (.ref a1)] _
    refine XS.iinc X3.here hx rfl (hb hby d17_34) rfl (l' := #[rv a1, .val (.int ((2 : Int32) + (1 : Int32))), iv p2]) rfl ?_
    show SS p e below T3 m 37 #[rv a1, iv (3 : Int32), iv p2] [(.int (2 : Int32)), (.ref a1)] _
    refine XS.iloadN X3.here hx rfl (hb hby d17_37) rfl ?_
    show SS p e below T3 m 38 #[rv a1, iv (3 : Int32), iv p2] [(.int p2), (.int (2 : Int32)), (.ref a1)] _
    refine st4 _ ?_
    show SS p e below T4 m 41 #[rv a1, iv (3 : Int32), iv p2] [(.int (0 : Int32)), (.int p2), (.int (2 : Int32)), (.ref a1)] _
    refine XS.ishr X4.here hx rfl (hb hby d17_41) rfl ?_
    show SS p e below T4 m 42 #[rv a1, iv (3 : Int32), iv p2] [(.int (p2 >>> ((0 : Int32) &&& 31))), (.int (2 : Int32)), (.ref a1)] _
    refine XS.i2b X4.here hx rfl (hb hby d17_42) rfl ?_
    show SS p e below T4 m 43 #[rv a1, iv (3 : Int32), iv p2] [(.int ((p2 >>> ((0 : Int32) &&& 31)).toInt8.toInt32)), (.int (2 : Int32)), (.ref a1)] _
    refine st9 _ ?_
    show SS p e below T9 m 44 #[rv a1, iv (3 : Int32), iv p2] [] _
    refine XS.aloadN X9.here hx rfl (hb hby d17_44) rfl rfl ?_
    refine XS.iloadN X9.here hx rfl (hb hby d17_45) rfl ?_
    refine XS.iloadN X9.here hx rfl (hb hby d17_46) rfl ?_
    show SS p e below T9 m 47 #[rv a1, iv (3 : Int32), iv p2] [(.int p2), (.int (3 : Int32)), (.ref a1)] _
    refine st10 _ ?_
    show SS p e below T10 m 50 #[rv a1, iv (3 : Int32), iv p2] [(.int (8 : Int32)), (.int p2), (.int (3 : Int32)), (.ref a1)] _
    refine XS.ishr X10.here hx rfl (hb hby d17_50) rfl ?_
    show SS p e below T10 m 51 #[rv a1, iv (3 : Int32), iv p2] [(.int (p2 >>> ((8 : Int32) &&& 31))), (.int (3 : Int32)), (.ref a1)] _
    refine XS.i2b X10.here hx rfl (hb hby d17_51) rfl ?_
    show SS p e below T10 m 52 #[rv a1, iv (3 : Int32), iv p2] [(.int ((p2 >>> ((8 : Int32) &&& 31)).toInt8.toInt32)), (.int (3 : Int32)), (.ref a1)] _
    refine st12 _ ?_
    show SS p e below T12 m 53 #[rv a1, iv (3 : Int32), iv p2] [] _
    exact X12.returnOut hx Bd.returns (hb hby d17_53) hr
  · show Q_rm17_4 Z a1 p2 p5 p6 k7 h0 n0 _ T12.heap _
    rw [e12]
    exact ⟨rfl, N12, KK12, V12⟩
theorem ef_17_31 (m : MethodId) (x0 : Addr) (x2 : Int32) : entryFrame m #[(.ref x0), (.int (2 : Int32)), (.int x2)] 3 = mkF m 0 #[.val (.ref x0), .val (.int (2 : Int32)), .val (.int x2)] [] := by first | (simp [entryFrame, mkF, argsToLocals, Value.category]; done) | rfl
def Q_rm17_5 (Z : State) (a1 : Addr) (p2 : Int32) (p5 : Int32) (p6 : Int32) (p7 : Int32) (p8 : Int32) (k9 : ClassId) (h0 : Heap) (n0 : Nat) (v : Option Value) (h : Heap) (L : List Loc) : Prop := v = none ∧ Fr n0 L ∧ Keep h0 h [a1] ∧ Arv Z h a1 k9 .byte (6 : Int32) [(.int p5), (.int p6), (.int p7), (.int p8), (.int (((p2 >>> ((0 : Int32) &&& 31)).toInt8.toInt32).toInt8.toInt32)), (.int (((p2 >>> ((8 : Int32) &&& 31)).toInt8.toInt32).toInt8.toInt32))] (.int (0 : Int32))
set_option maxRecDepth 65536 in
set_option maxHeartbeats 40000000 in
theorem rm17_5 (l : Launch) (Z : State) (a0 : Array Value) (hw : ∀ d ∈ tables_1, d.before a0 Z = true) (ws : List Jvm.Cond) (a1 : Addr) (p2 : Int32) (p5 : Int32) (p6 : Int32) (p7 : Int32) (p8 : Int32) (k9 : ClassId) (h0 : Heap) (n0 : Nat) (OL0 : Old Z n0 h0) (pr1 : Sta Z Z.heap "java/lang/StringUTF16" "$assertionsDisabled" "Z" (.int (1 : Int32))) (pr2 : Sta Z Z.heap "java/lang/StringUTF16" "HI_BYTE_SHIFT" "I" (.int (0 : Int32))) (pr3 : Arv Z h0 a1 k9 .byte (6 : Int32) [(.int p5), (.int p6), (.int p7), (.int p8), (.int (0 : Int32)), (.int (0 : Int32))] (.int (0 : Int32))) (pr4 : n0 ≤ a1) (pr5 : Sta Z Z.heap "java/lang/StringUTF16" "LO_BYTE_SHIFT" "I" (.int (8 : Int32))) :
    MetFree l mn17 (head1 (Jvm.Cond.code mn17 jdk_52_method_4_code 3 none :: ws) ({ frames := 0, cells := 0, slots := 0, locals := 0 } : Room)) (fun a U => a = #[(.ref a1), (.int (2 : Int32)), (.int p2)] ∧ Z.Warmed39 U.vm ∧ U.heap = h0) (fun _ _ _ _ _ => True) (fun _ U o U' => ∃ v L, o = .returned v ∧ Q_rm17_5 Z a1 p2 p5 p6 p7 p8 k9 h0 n0 v U'.heap L ∧ FrameEnd U o U' L ({ frames := 0, cells := 0, slots := 0, locals := 0 } : Room).cells ({ frames := 0, cells := 0, slots := 0, locals := 0 } : Room).slots) := by
  refine MetFree.of_bodySF (plainFor_of_name pn_6) hisR ?_
  intro p e s m args below meth c s₁ Bd hml0 hP hK
  obtain ⟨rfl, hZ, hh⟩ := hP
  have hx := Bd.exec
  have hby := Bd.bytes
  have hml : c.maxLocals = 3 := hml0
  have hown : s.vm.findClass "java/lang/StringUTF16" = some m.cls := findClass_of_methodNamed Bd.named
  have hnm := (name_of_methodNamed Bd.named Bd.method).1
  have X0 : Stand p l e ({ frames := 0, cells := 0, slots := 0, locals := 0 } : Room) s m #[(.ref a1), (.int (2 : Int32)), (.int p2)] below meth c s₁ [] 0 0 := Stand.of_body Bd
  have e0 : s₁.heap = h0 := by rw [← hh, Bd.state]; rfl
  have N0 := Fr.nil n0
  have pre0 : ∀ t, SS p e below s₁ m 0 #[rv a1, iv (2 : Int32), iv p2] [] t → Steps p.tables e below (s₁.setTop (entryFrame m #[(.ref a1), (.int (2 : Int32)), (.int p2)] 3)) t := fun t k => castTop (ef_17_31 m a1 p2) k
  obtain ⟨T3, X3, e3, st3⟩ := getS2 X0 hx hZ hown (host := "") (Or.inl (wd92 hw)) Via.refl e0 (pr1.ext OL0.2) (g := (mkF m 0 #[rv a1, iv (2 : Int32), iv p2] [])) rfl (hb hby d17_0)
  obtain ⟨T4, X4, e4, st4⟩ := getS2 X3 hx hZ hown (host := "") (Or.inl (wd93 hw)) Via.refl e3 (pr2.ext OL0.2) (g := (mkF m 38 #[rv a1, iv (5 : Int32), iv p2] [(.int p2), (.int (4 : Int32)), (.ref a1)])) rfl (hb hby d17_38)
  obtain ⟨cl10, Ar10, q10, S10, M10, Hs10, G10⟩ := id pr3
  have hin10 : ¬ ((4 : Int32) < 0 ∨ cl10.slots.size ≤ ((4 : Int32)).toNatClampNeg) := inb_of S10 ⟨by decide, by decide⟩
  obtain ⟨T11, h11, X11, e11, W11, st11⟩ := stB X4 hx hZ e4 Ar10 (j := (4 : Int32)) hin10 (g := (mkF m 43 #[rv a1, iv (5 : Int32), iv p2] [(.int ((p2 >>> ((0 : Int32) &&& 31)).toInt8.toInt32)), (.int (4 : Int32)), (.ref a1)])) rfl rfl (hb hby d17_43)
  have V11 : Arv Z h11 a1 k9 .byte (6 : Int32) [(.int p5), (.int p6), (.int p7), (.int p8), (.int (((p2 >>> ((0 : Int32) &&& 31)).toInt8.toInt32).toInt8.toInt32)), (.int (0 : Int32))] (.int (0 : Int32)) := Arv.set Ar10 q10 S10 M10 Hs10 G10 (fits_nar_byte _) W11 4 rfl (Nat.le_of_ble_eq_true rfl)
  have KK11 : Keep h0 h11 [a1] := (Keep.refl h0 [a1]).wr W11 (Or.inl (List.mem_of_getElem? (i := 0) rfl))
  have OL11 := OL0.wr W11 pr4
  have N11 := Fr.snoc X11 N0 pr4
  obtain ⟨T12, X12, e12, st12⟩ := getS2 X11 hx hZ hown (host := "") (Or.inl (wd94 hw)) Via.refl e11 (pr5.ext OL11.2) (g := (mkF m 47 #[rv a1, iv (5 : Int32), iv p2] [(.int p2), (.int (5 : Int32)), (.ref a1)])) rfl (hb hby d17_47)
  obtain ⟨cl13, Ar13, q13, S13, M13, Hs13, G13⟩ := id V11
  have hin13 : ¬ ((5 : Int32) < 0 ∨ cl13.slots.size ≤ ((5 : Int32)).toNatClampNeg) := inb_of S13 ⟨by decide, by decide⟩
  obtain ⟨T14, h14, X14, e14, W14, st14⟩ := stB X12 hx hZ e12 Ar13 (j := (5 : Int32)) hin13 (g := (mkF m 52 #[rv a1, iv (5 : Int32), iv p2] [(.int ((p2 >>> ((8 : Int32) &&& 31)).toInt8.toInt32)), (.int (5 : Int32)), (.ref a1)])) rfl rfl (hb hby d17_52)
  have V14 : Arv Z h14 a1 k9 .byte (6 : Int32) [(.int p5), (.int p6), (.int p7), (.int p8), (.int (((p2 >>> ((0 : Int32) &&& 31)).toInt8.toInt32).toInt8.toInt32)), (.int (((p2 >>> ((8 : Int32) &&& 31)).toInt8.toInt32).toInt8.toInt32))] (.int (0 : Int32)) := Arv.set Ar13 q13 S13 M13 Hs13 G13 (fits_nar_byte _) W14 5 rfl (Nat.le_of_ble_eq_true rfl)
  have KK14 : Keep h0 h14 [a1] := KK11.wr W14 (Or.inl (List.mem_of_getElem? (i := 0) rfl))
  have OL14 := OL11.wr W14 pr4
  have N14 := Fr.snoc X14 N11 pr4
  obtain ⟨fs, hr, hrun, hended, hW, hsame⟩ := X14.leave (v := none) (fun _ => rfl)
  refine ⟨_, _, pre0 _ ?_, hrun, hended, _, _, rfl, ?_, ⟨_, rfl⟩, hW, hsame.mono (by decide) (by decide)⟩
  · show SS p e below s₁ m 0 #[rv a1, iv (2 : Int32), iv p2] [] _
    refine st3 _ ?_
    show SS p e below T3 m 3 #[rv a1, iv (2 : Int32), iv p2] [(.int (1 : Int32))] _
    refine XS.ifYes X3.here hx rfl (pc0 := 3) (pc' := 28) rfl (hb hby d17_3) rfl ((if0 _ _).trans (feq (by decide : ¬ ((1 : Int32) = (0 : Int32)))).2) (by decide) (by decide) ?_
    show SS p e below T3 m 28 #[rv a1, iv (2 : Int32), iv p2] [] _
    refine XS.iloadN X3.here hx rfl (hb hby d17_28) rfl ?_
    refine XS.iconst X3.here hx rfl (hb hby d17_29) ?_
    show SS p e below T3 m 30 #[rv a1, iv (2 : Int32), iv p2] [(.int (1 : Int32)), (.int (2 : Int32))] _
    refine XS.ishl X3.here hx rfl (hb hby d17_30) rfl ?_
    show SS p e below T3 m 31 #[rv a1, iv (2 : Int32), iv p2] [(.int (4 : Int32))] _
    refine XS.istoreN X3.here hx rfl (hb hby d17_31) rfl (l' := #[rv a1, iv (4 : Int32), iv p2]) rfl ?_
    refine XS.aloadN X3.here hx rfl (hb hby d17_32) rfl rfl ?_
    refine XS.iloadN X3.here hx rfl (hb hby d17_33) rfl ?_
    show SS p e below T3 m 34 #[rv a1, iv (4 : Int32), iv p2] [(.int (4 : Int32)), (.ref a1)] _
    refine XS.iinc X3.here hx rfl (hb hby d17_34) rfl (l' := #[rv a1, .val (.int ((4 : Int32) + (1 : Int32))), iv p2]) rfl ?_
    show SS p e below T3 m 37 #[rv a1, iv (5 : Int32), iv p2] [(.int (4 : Int32)), (.ref a1)] _
    refine XS.iloadN X3.here hx rfl (hb hby d17_37) rfl ?_
    show SS p e below T3 m 38 #[rv a1, iv (5 : Int32), iv p2] [(.int p2), (.int (4 : Int32)), (.ref a1)] _
    refine st4 _ ?_
    show SS p e below T4 m 41 #[rv a1, iv (5 : Int32), iv p2] [(.int (0 : Int32)), (.int p2), (.int (4 : Int32)), (.ref a1)] _
    refine XS.ishr X4.here hx rfl (hb hby d17_41) rfl ?_
    show SS p e below T4 m 42 #[rv a1, iv (5 : Int32), iv p2] [(.int (p2 >>> ((0 : Int32) &&& 31))), (.int (4 : Int32)), (.ref a1)] _
    refine XS.i2b X4.here hx rfl (hb hby d17_42) rfl ?_
    show SS p e below T4 m 43 #[rv a1, iv (5 : Int32), iv p2] [(.int ((p2 >>> ((0 : Int32) &&& 31)).toInt8.toInt32)), (.int (4 : Int32)), (.ref a1)] _
    refine st11 _ ?_
    show SS p e below T11 m 44 #[rv a1, iv (5 : Int32), iv p2] [] _
    refine XS.aloadN X11.here hx rfl (hb hby d17_44) rfl rfl ?_
    refine XS.iloadN X11.here hx rfl (hb hby d17_45) rfl ?_
    refine XS.iloadN X11.here hx rfl (hb hby d17_46) rfl ?_
    show SS p e below T11 m 47 #[rv a1, iv (5 : Int32), iv p2] [(.int p2), (.int (5 : Int32)), (.ref a1)] _
    refine st12 _ ?_
    show SS p e below T12 m 50 #[rv a1, iv (5 : Int32), iv p2] [(.int (8 : Int32)), (.int p2), (.int (5 : Int32)), (.ref a1)] _
    refine XS.ishr X12.here hx rfl (hb hby d17_50) rfl ?_
    show SS p e below T12 m 51 #[rv a1, iv (5 : Int32), iv p2] [(.int (p2 >>> ((8 : Int32) &&& 31))), (.int (5 : Int32)), (.ref a1)] _
    refine XS.i2b X12.here hx rfl (hb hby d17_51) rfl ?_
    show SS p e below T12 m 52 #[rv a1, iv (5 : Int32), iv p2] [(.int ((p2 >>> ((8 : Int32) &&& 31)).toInt8.toInt32)), (.int (5 : Int32)), (.ref a1)] _
    refine st14 _ ?_
    show SS p e below T14 m 53 #[rv a1, iv (5 : Int32), iv p2] [] _
    exact X14.returnOut hx Bd.returns (hb hby d17_53) hr
  · show Q_rm17_5 Z a1 p2 p5 p6 p7 p8 k9 h0 n0 _ T14.heap _
    rw [e14]
    exact ⟨rfl, N14, KK14, V14⟩
theorem ef_14_32 (m : MethodId) (x0 : Addr) : entryFrame m #[(.ref x0), (.int (0 : Int32)), (.int (3 : Int32))] 5 = mkF m 0 #[.val (.ref x0), .val (.int (0 : Int32)), .val (.int (3 : Int32)), .unset, .unset] [] := by first | (simp [entryFrame, mkF, argsToLocals, Value.category]; done) | rfl
def Q_rm14_1 (Z : State) (a1 : Addr) (p3 : Int32) (p4 : Int32) (p5 : Int32) (k6 : ClassId) (h0 : Heap) (n0 : Nat) (v : Option Value) (h : Heap) (L : List Loc) : Prop := ∃ b2_0 : Addr, ∃ kx2_0 : ClassId, v = some (.ref b2_0) ∧ Fr n0 L ∧ Keep h0 h [] ∧ h0.size ≤ b2_0 ∧ Arv Z h b2_0 kx2_0 .byte (6 : Int32) [(.int (((p3 >>> ((0 : Int32) &&& 31)).toInt8.toInt32).toInt8.toInt32)), (.int (((p3 >>> ((8 : Int32) &&& 31)).toInt8.toInt32).toInt8.toInt32)), (.int (((p4 >>> ((0 : Int32) &&& 31)).toInt8.toInt32).toInt8.toInt32)), (.int (((p4 >>> ((8 : Int32) &&& 31)).toInt8.toInt32).toInt8.toInt32)), (.int (((p5 >>> ((0 : Int32) &&& 31)).toInt8.toInt32).toInt8.toInt32)), (.int (((p5 >>> ((8 : Int32) &&& 31)).toInt8.toInt32).toInt8.toInt32))] (.int (0 : Int32))
set_option maxRecDepth 65536 in
set_option maxHeartbeats 40000000 in
theorem rm14_1 (l : Launch) (Z : State) (a0 : Array Value) (hw : ∀ d ∈ tables_1, d.before a0 Z = true) (ws : List Jvm.Cond) (a1 : Addr) (p3 : Int32) (p4 : Int32) (p5 : Int32) (k6 : ClassId) (h0 : Heap) (n0 : Nat) (OL0 : Old Z n0 h0) (pr1 : Arv Z h0 a1 k6 .char (3 : Int32) [(.int p3), (.int p4), (.int p5)] (.int (0 : Int32))) (pr2 : Sta Z Z.heap "java/lang/StringUTF16" "$assertionsDisabled" "Z" (.int (1 : Int32))) (pr3 : Sta Z Z.heap "java/lang/StringUTF16" "HI_BYTE_SHIFT" "I" (.int (0 : Int32))) (pr4 : Sta Z Z.heap "java/lang/StringUTF16" "LO_BYTE_SHIFT" "I" (.int (8 : Int32))) :
    MetFree l mn14 (head1 (Jvm.Cond.code mn14 jdk_52_method_14_code 5 (some (.array .byte)) :: ws) ({ frames := 2, cells := 1, slots := 6, locals := 24 } : Room)) (fun a U => a = #[(.ref a1), (.int (0 : Int32)), (.int (3 : Int32))] ∧ Z.Warmed39 U.vm ∧ U.heap = h0) (fun _ _ _ _ _ => True) (fun _ U o U' => ∃ v L, o = .returned v ∧ Q_rm14_1 Z a1 p3 p4 p5 k6 h0 n0 v U'.heap L ∧ FrameEnd U o U' L ({ frames := 2, cells := 1, slots := 6, locals := 24 } : Room).cells ({ frames := 2, cells := 1, slots := 6, locals := 24 } : Room).slots) := by
  refine MetFree.of_bodySF (plainFor_of_name pn_6) hisR ?_
  intro p e s m args below meth c s₁ Bd hml0 hP hK
  obtain ⟨rfl, hZ, hh⟩ := hP
  have hx := Bd.exec
  have hby := Bd.bytes
  have hml : c.maxLocals = 5 := hml0
  have hown : s.vm.findClass "java/lang/StringUTF16" = some m.cls := findClass_of_methodNamed Bd.named
  have hnm := (name_of_methodNamed Bd.named Bd.method).1
  have X0 : Stand p l e ({ frames := 2, cells := 1, slots := 6, locals := 24 } : Room) s m #[(.ref a1), (.int (0 : Int32)), (.int (3 : Int32))] below meth c s₁ [] 0 0 := Stand.of_body Bd
  have e0 : s₁.heap = h0 := by rw [← hh, Bd.state]; rfl
  have N0 := Fr.nil n0
  have pre0 : ∀ t, SS p e below s₁ m 0 #[rv a1, iv (0 : Int32), iv (3 : Int32), .unset, .unset] [] t → Steps p.tables e below (s₁.setTop (entryFrame m #[(.ref a1), (.int (0 : Int32)), (.int (3 : Int32))] 5)) t := fun t k => castTop (ef_14_32 m a1) k
  obtain ⟨_, _, ⟨T2, L2, k2, n2⟩, -, X2, ⟨Lc2, hQ2, l2, y2, z2⟩, st2⟩ := Jvm.LawKit.callS X0 hx (y := mn15) hown (mvT hZ (wd82 hw)) (mvT hZ (wd83 hw)) (mvT hZ (wd22 hw)) (mvT hZ (wd84 hw)) (by decide) (backOf (W := 0) (rm15_1 l Z a0 hw []  h0 n0 OL0 ) hZ (wd84 hw) (wd22 hw) (by decide) (by decide)) (g := (mkF m 1 #[rv a1, iv (0 : Int32), iv (3 : Int32), .unset, .unset] [(.int (3 : Int32))])) rfl (by rw [hml]; rfl) (argsL := [(.int (3 : Int32))]) (rest := []) (lenOf pd_16 rfl) rfl (by show 2 * 0 + _ ≤ _; exact Nat.le_of_eq rfl) (hb hby d14_1) (fun _ _ => ⟨rfl, e0, (by decide : 0 + 1 ≤ _), (by decide : 0 + 6 ≤ _)⟩)
  dsimp only [Pt.U, Pt.locs, Pt.cells, Pt.slots] at X2 l2 y2 z2 st2 hQ2
  subst l2 y2 z2
  obtain ⟨b2_0, kx2_0, rfl, Nq2, K2, u2_0, u2_1⟩ := hQ2
  have KK2 : Keep h0 T2.heap [] := (Keep.refl h0 []).trans K2 all0
  have OL2 := OL0.keep K2 all0
  have g_b2_0 : n0 ≤ b2_0 := Nat.le_trans (Nat.le_trans (Nat.le_of_eq OL0.1.symm) OL0.2.1) u2_0
  have sz_b2_0 : h0.size ≤ b2_0 := Nat.le_trans (Keep.refl h0 []).1 u2_0
  have N2 := Fr.app N0 Nq2
  have fc7 := (pr1.keep K2 nin0)
  obtain ⟨cl8, Ar8, -, S8, -, Hs8, -⟩ := id fc7
  have hin8 : ¬ ((0 : Int32) < 0 ∨ cl8.slots.size ≤ ((0 : Int32)).toNatClampNeg) := inb_of S8 ⟨by decide, by decide⟩
  have hat8 : cl8.slots[((0 : Int32)).toNatClampNeg]? = some (.int p3) := Hs8.at hin8 rfl
  obtain ⟨_, _, ⟨T9, L9, k9, n9⟩, -, X9, ⟨Lc9, hQ9, l9, y9, z9⟩, st9⟩ := Jvm.LawKit.callS X2 hx (y := mn17) hown (mvT hZ (wd89 hw)) (mvT hZ (wd90 hw)) (mvT hZ (wd22 hw)) (mvT hZ (wd91 hw)) (by decide) (backOf (W := 0) (rm17_3 l Z a0 hw [] b2_0 p3 kx2_0 T2.heap n0 OL2 pr2 pr3 u2_1 g_b2_0 pr4) hZ (wd91 hw) (wd22 hw) (by decide) (by decide)) (g := (mkF m 20 #[rv a1, iv (0 : Int32), iv (3 : Int32), rv b2_0, iv (0 : Int32)] [(.int p3), (.int (0 : Int32)), (.ref b2_0)])) rfl (by rw [hml]; rfl) (argsL := [(.ref b2_0), (.int (0 : Int32)), (.int p3)]) (rest := []) (lenOf pd_10 rfl) rfl (by show 2 * 0 + _ ≤ _; exact Nat.le_of_eq rfl) (hb hby d14_20) (fun _ _ => ⟨rfl, rfl, (by decide : 1 + 0 ≤ _), (by decide : 6 + 0 ≤ _)⟩)
  dsimp only [Pt.U, Pt.locs, Pt.cells, Pt.slots] at X9 l9 y9 z9 st9 hQ9
  subst l9 y9 z9
  obtain ⟨rfl, Nq9, K9, u9_0⟩ := hQ9
  have KK9 : Keep h0 T9.heap [] := KK2.trans K9 (allS (Or.inr sz_b2_0) all0)
  have OL9 := OL2.keep K9 (allS g_b2_0 all0)
  have N9 := Fr.app N2 Nq9
  have fc10 := (fc7.keep K9 (ninS (Nat.ne_of_lt (Nat.lt_of_lt_of_le pr1.lt sz_b2_0)) nin0))
  obtain ⟨cl11, Ar11, -, S11, -, Hs11, -⟩ := id fc10
  have hin11 : ¬ ((1 : Int32) < 0 ∨ cl11.slots.size ≤ ((1 : Int32)).toNatClampNeg) := inb_of S11 ⟨by decide, by decide⟩
  have hat11 : cl11.slots[((1 : Int32)).toNatClampNeg]? = some (.int p4) := Hs11.at hin11 rfl
  obtain ⟨_, _, ⟨T12, L12, k12, n12⟩, -, X12, ⟨Lc12, hQ12, l12, y12, z12⟩, st12⟩ := Jvm.LawKit.callS X9 hx (y := mn17) hown (mvT hZ (wd89 hw)) (mvT hZ (wd90 hw)) (mvT hZ (wd22 hw)) (mvT hZ (wd91 hw)) (by decide) (backOf (W := 0) (rm17_4 l Z a0 hw [] b2_0 p4 (((p3 >>> ((0 : Int32) &&& 31)).toInt8.toInt32).toInt8.toInt32) (((p3 >>> ((8 : Int32) &&& 31)).toInt8.toInt32).toInt8.toInt32) kx2_0 T9.heap n0 OL9 pr2 pr3 u9_0 g_b2_0 pr4) hZ (wd91 hw) (wd22 hw) (by decide) (by decide)) (g := (mkF m 20 #[rv a1, iv (1 : Int32), iv (3 : Int32), rv b2_0, iv (1 : Int32)] [(.int p4), (.int (1 : Int32)), (.ref b2_0)])) rfl (by rw [hml]; rfl) (argsL := [(.ref b2_0), (.int (1 : Int32)), (.int p4)]) (rest := []) (lenOf pd_10 rfl) rfl (by show 2 * 0 + _ ≤ _; exact Nat.le_of_eq rfl) (hb hby d14_20) (fun _ _ => ⟨rfl, rfl, (by decide : 1 + 0 ≤ _), (by decide : 6 + 0 ≤ _)⟩)
  dsimp only [Pt.U, Pt.locs, Pt.cells, Pt.slots] at X12 l12 y12 z12 st12 hQ12
  subst l12 y12 z12
  obtain ⟨rfl, Nq12, K12, u12_0⟩ := hQ12
  have KK12 : Keep h0 T12.heap [] := KK9.trans K12 (allS (Or.inr sz_b2_0) all0)
  have OL12 := OL9.keep K12 (allS g_b2_0 all0)
  have N12 := Fr.app N9 Nq12
  have fc13 := (fc10.keep K12 (ninS (Nat.ne_of_lt (Nat.lt_of_lt_of_le pr1.lt sz_b2_0)) nin0))
  obtain ⟨cl14, Ar14, -, S14, -, Hs14, -⟩ := id fc13
  have hin14 : ¬ ((2 : Int32) < 0 ∨ cl14.slots.size ≤ ((2 : Int32)).toNatClampNeg) := inb_of S14 ⟨by decide, by decide⟩
  have hat14 : cl14.slots[((2 : Int32)).toNatClampNeg]? = some (.int p5) := Hs14.at hin14 rfl
  obtain ⟨_, _, ⟨T15, L15, k15, n15⟩, -, X15, ⟨Lc15, hQ15, l15, y15, z15⟩, st15⟩ := Jvm.LawKit.callS X12 hx (y := mn17) hown (mvT hZ (wd89 hw)) (mvT hZ (wd90 hw)) (mvT hZ (wd22 hw)) (mvT hZ (wd91 hw)) (by decide) (backOf (W := 0) (rm17_5 l Z a0 hw [] b2_0 p5 (((p3 >>> ((0 : Int32) &&& 31)).toInt8.toInt32).toInt8.toInt32) (((p3 >>> ((8 : Int32) &&& 31)).toInt8.toInt32).toInt8.toInt32) (((p4 >>> ((0 : Int32) &&& 31)).toInt8.toInt32).toInt8.toInt32) (((p4 >>> ((8 : Int32) &&& 31)).toInt8.toInt32).toInt8.toInt32) kx2_0 T12.heap n0 OL12 pr2 pr3 u12_0 g_b2_0 pr4) hZ (wd91 hw) (wd22 hw) (by decide) (by decide)) (g := (mkF m 20 #[rv a1, iv (2 : Int32), iv (3 : Int32), rv b2_0, iv (2 : Int32)] [(.int p5), (.int (2 : Int32)), (.ref b2_0)])) rfl (by rw [hml]; rfl) (argsL := [(.ref b2_0), (.int (2 : Int32)), (.int p5)]) (rest := []) (lenOf pd_10 rfl) rfl (by show 2 * 0 + _ ≤ _; exact Nat.le_of_eq rfl) (hb hby d14_20) (fun _ _ => ⟨rfl, rfl, (by decide : 1 + 0 ≤ _), (by decide : 6 + 0 ≤ _)⟩)
  dsimp only [Pt.U, Pt.locs, Pt.cells, Pt.slots] at X15 l15 y15 z15 st15 hQ15
  subst l15 y15 z15
  obtain ⟨rfl, Nq15, K15, u15_0⟩ := hQ15
  have KK15 : Keep h0 T15.heap [] := KK12.trans K15 (allS (Or.inr sz_b2_0) all0)
  have OL15 := OL12.keep K15 (allS g_b2_0 all0)
  have N15 := Fr.app N12 Nq15
  obtain ⟨fs, hr, hrun, hended, hW, hsame⟩ := X15.leave (v := some (.ref b2_0)) (fun h => by rw [Bd.returns] at h; cases h)
  refine ⟨_, _, pre0 _ ?_, hrun, hended, _, _, rfl, ?_, ⟨_, rfl⟩, hW, hsame.mono (by decide) (by decide)⟩
  · show SS p e below s₁ m 0 #[rv a1, iv (0 : Int32), iv (3 : Int32), .unset, .unset] [] _
    refine XS.iloadN X0.here hx rfl (hb hby d14_0) rfl ?_
    show SS p e below s₁ m 1 #[rv a1, iv (0 : Int32), iv (3 : Int32), .unset, .unset] [(.int (3 : Int32))] _
    refine st2 _ ?_
    show SS p e below T2 m 4 #[rv a1, iv (0 : Int32), iv (3 : Int32), .unset, .unset] [(.ref b2_0)] _
    refine XS.astoreN X2.here hx rfl (hb hby d14_4) rfl rfl (l' := #[rv a1, iv (0 : Int32), iv (3 : Int32), rv b2_0, .unset]) rfl ?_
    refine XS.iconst X2.here hx rfl (hb hby d14_5) ?_
    refine XS.istore X2.here hx rfl (hb hby d14_6) rfl (l' := #[rv a1, iv (0 : Int32), iv (3 : Int32), rv b2_0, iv (0 : Int32)]) rfl ?_
    refine XS.iload X2.here hx rfl (hb hby d14_8) rfl ?_
    show SS p e below T2 m 10 #[rv a1, iv (0 : Int32), iv (3 : Int32), rv b2_0, iv (0 : Int32)] [(.int (0 : Int32))] _
    refine XS.iloadN X2.here hx rfl (hb hby d14_10) rfl ?_
    show SS p e below T2 m 11 #[rv a1, iv (0 : Int32), iv (3 : Int32), rv b2_0, iv (0 : Int32)] [(.int (3 : Int32)), (.int (0 : Int32))] _
    refine XS.icmpNo X2.here hx rfl (hb hby d14_11) rfl (tlt (by decide : (0 : Int32) < (3 : Int32))).2.1 ?_
    show SS p e below T2 m 14 #[rv a1, iv (0 : Int32), iv (3 : Int32), rv b2_0, iv (0 : Int32)] [] _
    refine XS.aloadN X2.here hx rfl (hb hby d14_14) rfl rfl ?_
    refine XS.iload X2.here hx rfl (hb hby d14_15) rfl ?_
    refine XS.aloadN X2.here hx rfl (hb hby d14_17) rfl rfl ?_
    refine XS.iloadN X2.here hx rfl (hb hby d14_18) rfl ?_
    show SS p e below T2 m 19 #[rv a1, iv (0 : Int32), iv (3 : Int32), rv b2_0, iv (0 : Int32)] [(.int (0 : Int32)), (.ref a1), (.int (0 : Int32)), (.ref b2_0)] _
    refine X2.caload hx (j := (0 : Int32)) (v := (.int p3)) Ar8.1 (State.isArrayOf_alike hZ.alike Ar8.2.1) Ar8.2.2 hin8 hat8 (g := (mkF m 19 #[rv a1, iv (0 : Int32), iv (3 : Int32), rv b2_0, iv (0 : Int32)] [(.int (0 : Int32)), (.ref a1), (.int (0 : Int32)), (.ref b2_0)])) rfl rfl (hb hby d14_19) _ ?_
    show SS p e below T2 m 20 #[rv a1, iv (0 : Int32), iv (3 : Int32), rv b2_0, iv (0 : Int32)] [(.int p3), (.int (0 : Int32)), (.ref b2_0)] _
    refine st9 _ ?_
    show SS p e below T9 m 23 #[rv a1, iv (0 : Int32), iv (3 : Int32), rv b2_0, iv (0 : Int32)] [] _
    refine XS.iinc X9.here hx rfl (hb hby d14_23) rfl (l' := #[rv a1, .val (.int ((0 : Int32) + (1 : Int32))), iv (3 : Int32), rv b2_0, iv (0 : Int32)]) rfl ?_
    show SS p e below T9 m 26 #[rv a1, iv (1 : Int32), iv (3 : Int32), rv b2_0, iv (0 : Int32)] [] _
    refine XS.iinc X9.here hx rfl (hb hby d14_26) rfl (l' := #[rv a1, iv (1 : Int32), iv (3 : Int32), rv b2_0, .val (.int ((0 : Int32) + (1 : Int32)))]) rfl ?_
    show SS p e below T9 m 29 #[rv a1, iv (1 : Int32), iv (3 : Int32), rv b2_0, iv (1 : Int32)] [] _
    refine XS.goto X9.here hx rfl (pc0 := 29) (pc' := 8) rfl (hb hby d14_29) (by decide) (by decide) ?_
    refine XS.iload X9.here hx rfl (hb hby d14_8) rfl ?_
    refine XS.iloadN X9.here hx rfl (hb hby d14_10) rfl ?_
    show SS p e below T9 m 11 #[rv a1, iv (1 : Int32), iv (3 : Int32), rv b2_0, iv (1 : Int32)] [(.int (3 : Int32)), (.int (1 : Int32))] _
    refine XS.icmpNo X9.here hx rfl (hb hby d14_11) rfl (tlt (by decide : (1 : Int32) < (3 : Int32))).2.1 ?_
    show SS p e below T9 m 14 #[rv a1, iv (1 : Int32), iv (3 : Int32), rv b2_0, iv (1 : Int32)] [] _
    refine XS.aloadN X9.here hx rfl (hb hby d14_14) rfl rfl ?_
    refine XS.iload X9.here hx rfl (hb hby d14_15) rfl ?_
    refine XS.aloadN X9.here hx rfl (hb hby d14_17) rfl rfl ?_
    refine XS.iloadN X9.here hx rfl (hb hby d14_18) rfl ?_
    show SS p e below T9 m 19 #[rv a1, iv (1 : Int32), iv (3 : Int32), rv b2_0, iv (1 : Int32)] [(.int (1 : Int32)), (.ref a1), (.int (1 : Int32)), (.ref b2_0)] _
    refine X9.caload hx (j := (1 : Int32)) (v := (.int p4)) Ar11.1 (State.isArrayOf_alike hZ.alike Ar11.2.1) Ar11.2.2 hin11 hat11 (g := (mkF m 19 #[rv a1, iv (1 : Int32), iv (3 : Int32), rv b2_0, iv (1 : Int32)] [(.int (1 : Int32)), (.ref a1), (.int (1 : Int32)), (.ref b2_0)])) rfl rfl (hb hby d14_19) _ ?_
    show SS p e below T9 m 20 #[rv a1, iv (1 : Int32), iv (3 : Int32), rv b2_0, iv (1 : Int32)] [(.int p4), (.int (1 : Int32)), (.ref b2_0)] _
    refine st12 _ ?_
    show SS p e below T12 m 23 #[rv a1, iv (1 : Int32), iv (3 : Int32), rv b2_0, iv (1 : Int32)] [] _
    refine XS.iinc X12.here hx rfl (hb hby d14_23) rfl (l' := #[rv a1, .val (.int ((1 : Int32) + (1 : Int32))), iv (3 : Int32), rv b2_0, iv (1 : Int32)]) rfl ?_
    show SS p e below T12 m 26 #[rv a1, iv (2 : Int32), iv (3 : Int32), rv b2_0, iv (1 : Int32)] [] _
    refine XS.iinc X12.here hx rfl (hb hby d14_26) rfl (l' := #[rv a1, iv (2 : Int32), iv (3 : Int32), rv b2_0, .val (.int ((1 : Int32) + (1 : Int32)))]) rfl ?_
    show SS p e below T12 m 29 #[rv a1, iv (2 : Int32), iv (3 : Int32), rv b2_0, iv (2 : Int32)] [] _
    refine XS.goto X12.here hx rfl (pc0 := 29) (pc' := 8) rfl (hb hby d14_29) (by decide) (by decide) ?_
    refine XS.iload X12.here hx rfl (hb hby d14_8) rfl ?_
    refine XS.iloadN X12.here hx rfl (hb hby d14_10) rfl ?_
    show SS p e below T12 m 11 #[rv a1, iv (2 : Int32), iv (3 : Int32), rv b2_0, iv (2 : Int32)] [(.int (3 : Int32)), (.int (2 : Int32))] _
    refine XS.icmpNo X12.here hx rfl (hb hby d14_11) rfl (tlt (by decide : (2 : Int32) < (3 : Int32))).2.1 ?_
    show SS p e below T12 m 14 #[rv a1, iv (2 : Int32), iv (3 : Int32), rv b2_0, iv (2 : Int32)] [] _
    refine XS.aloadN X12.here hx rfl (hb hby d14_14) rfl rfl ?_
    refine XS.iload X12.here hx rfl (hb hby d14_15) rfl ?_
    refine XS.aloadN X12.here hx rfl (hb hby d14_17) rfl rfl ?_
    refine XS.iloadN X12.here hx rfl (hb hby d14_18) rfl ?_
    show SS p e below T12 m 19 #[rv a1, iv (2 : Int32), iv (3 : Int32), rv b2_0, iv (2 : Int32)] [(.int (2 : Int32)), (.ref a1), (.int (2 : Int32)), (.ref b2_0)] _
    refine X12.caload hx (j := (2 : Int32)) (v := (.int p5)) Ar14.1 (State.isArrayOf_alike hZ.alike Ar14.2.1) Ar14.2.2 hin14 hat14 (g := (mkF m 19 #[rv a1, iv (2 : Int32), iv (3 : Int32), rv b2_0, iv (2 : Int32)] [(.int (2 : Int32)), (.ref a1), (.int (2 : Int32)), (.ref b2_0)])) rfl rfl (hb hby d14_19) _ ?_
    show SS p e below T12 m 20 #[rv a1, iv (2 : Int32), iv (3 : Int32), rv b2_0, iv (2 : Int32)] [(.int p5), (.int (2 : Int32)), (.ref b2_0)] _
    refine st15 _ ?_
    show SS p e below T15 m 23 #[rv a1, iv (2 : Int32), iv (3 : Int32), rv b2_0, iv (2 : Int32)] [] _
    refine XS.iinc X15.here hx rfl (hb hby d14_23) rfl (l' := #[rv a1, .val (.int ((2 : Int32) + (1 : Int32))), iv (3 : Int32), rv b2_0, iv (2 : Int32)]) rfl ?_
    show SS p e below T15 m 26 #[rv a1, iv (3 : Int32), iv (3 : Int32), rv b2_0, iv (2 : Int32)] [] _
    refine XS.iinc X15.here hx rfl (hb hby d14_26) rfl (l' := #[rv a1, iv (3 : Int32), iv (3 : Int32), rv b2_0, .val (.int ((2 : Int32) + (1 : Int32)))]) rfl ?_
    show SS p e below T15 m 29 #[rv a1, iv (3 : Int32), iv (3 : Int32), rv b2_0, iv (3 : Int32)] [] _
    refine XS.goto X15.here hx rfl (pc0 := 29) (pc' := 8) rfl (hb hby d14_29) (by decide) (by decide) ?_
    refine XS.iload X15.here hx rfl (hb hby d14_8) rfl ?_
    refine XS.iloadN X15.here hx rfl (hb hby d14_10) rfl ?_
    show SS p e below T15 m 11 #[rv a1, iv (3 : Int32), iv (3 : Int32), rv b2_0, iv (3 : Int32)] [(.int (3 : Int32)), (.int (3 : Int32))] _
    refine XS.icmpYes X15.here hx rfl (pc0 := 11) (pc' := 32) rfl (hb hby d14_11) rfl (flt (by decide : ¬ ((3 : Int32) < (3 : Int32)))).2.1 (by decide) (by decide) ?_
    show SS p e below T15 m 32 #[rv a1, iv (3 : Int32), iv (3 : Int32), rv b2_0, iv (3 : Int32)] [] _
    refine XS.aloadN X15.here hx rfl (hb hby d14_32) rfl rfl ?_
    show SS p e below T15 m 33 #[rv a1, iv (3 : Int32), iv (3 : Int32), rv b2_0, iv (3 : Int32)] [(.ref b2_0)] _
    jvm_step X15.here [X15.here.top, hx, (hb hby d14_33), X15.method', Bd.returns, Value.isRef, FieldType.isReference]
    first | (intro acts; rw [hr _ acts rfl rfl rfl]) | rw [hr _ _ rfl rfl rfl]
    exact Steps.refl _
  · show Q_rm14_1 Z a1 p3 p4 p5 k6 h0 n0 _ T15.heap _
    exact ⟨b2_0, kx2_0, rfl, N15, KK15, sz_b2_0, u15_0⟩
def Q_rm18_2 (Z : State) (a1 : Addr) (p3 : Int32) (p4 : Int32) (p5 : Int32) (p6 : Int32) (p7 : Int32) (p8 : Int32) (k9 : ClassId) (h0 : Heap) (n0 : Nat) (v : Option Value) (h : Heap) (L : List Loc) : Prop := v = some (.int (nar .char ((((p3 &&& (255 : Int32)) <<< ((0 : Int32) &&& 31)) ||| ((p4 &&& (255 : Int32)) <<< ((8 : Int32) &&& 31))).toUInt32.toUInt16.toUInt32.toInt32))) ∧ Fr n0 L ∧ h = h0
set_option maxRecDepth 65536 in
set_option maxHeartbeats 40000000 in
theorem rm18_2 (l : Launch) (Z : State) (a0 : Array Value) (hw : ∀ d ∈ tables_1, d.before a0 Z = true) (ws : List Jvm.Cond) (a1 : Addr) (p3 : Int32) (p4 : Int32) (p5 : Int32) (p6 : Int32) (p7 : Int32) (p8 : Int32) (k9 : ClassId) (h0 : Heap) (n0 : Nat) (OL0 : Old Z n0 h0) (pr1 : Sta Z Z.heap "java/lang/StringUTF16" "$assertionsDisabled" "Z" (.int (1 : Int32))) (pr2 : Arv Z h0 a1 k9 .byte (6 : Int32) [(.int p3), (.int p4), (.int p5), (.int p6), (.int p7), (.int p8)] (.int (0 : Int32))) (pr3 : Sta Z Z.heap "java/lang/StringUTF16" "HI_BYTE_SHIFT" "I" (.int (0 : Int32))) (pr4 : Sta Z Z.heap "java/lang/StringUTF16" "LO_BYTE_SHIFT" "I" (.int (8 : Int32))) :
    MetFree l mn18 (head1 (Jvm.Cond.code mn18 jdk_52_method_5_code 2 (some .char) :: ws) ({ frames := 0, cells := 0, slots := 0, locals := 0 } : Room)) (fun a U => a = #[(.ref a1), (.int (0 : Int32))] ∧ Z.Warmed39 U.vm ∧ U.heap = h0) (fun _ _ _ _ _ => True) (fun _ U o U' => ∃ v L, o = .returned v ∧ Q_rm18_2 Z a1 p3 p4 p5 p6 p7 p8 k9 h0 n0 v U'.heap L ∧ FrameEnd U o U' L ({ frames := 0, cells := 0, slots := 0, locals := 0 } : Room).cells ({ frames := 0, cells := 0, slots := 0, locals := 0 } : Room).slots) := by
  refine MetFree.of_bodySF (plainFor_of_name pn_6) hisR ?_
  intro p e s m args below meth c s₁ Bd hml0 hP hK
  obtain ⟨rfl, hZ, hh⟩ := hP
  have hx := Bd.exec
  have hby := Bd.bytes
  have hml : c.maxLocals = 2 := hml0
  have hown : s.vm.findClass "java/lang/StringUTF16" = some m.cls := findClass_of_methodNamed Bd.named
  have hnm := (name_of_methodNamed Bd.named Bd.method).1
  have X0 : Stand p l e ({ frames := 0, cells := 0, slots := 0, locals := 0 } : Room) s m #[(.ref a1), (.int (0 : Int32))] below meth c s₁ [] 0 0 := Stand.of_body Bd
  have e0 : s₁.heap = h0 := by rw [← hh, Bd.state]; rfl
  have N0 := Fr.nil n0
  have pre0 : ∀ t, SS p e below s₁ m 0 #[rv a1, iv (0 : Int32)] [] t → Steps p.tables e below (s₁.setTop (entryFrame m #[(.ref a1), (.int (0 : Int32))] 2)) t := fun t k => castTop (ef_18_22 m a1) k
  obtain ⟨T2, X2, e2, st2⟩ := getS2 X0 hx hZ hown (host := "") (Or.inl (wd92 hw)) Via.refl e0 (pr1.ext OL0.2) (g := (mkF m 0 #[rv a1, iv (0 : Int32)] [])) rfl (hb hby d18_0)
  obtain ⟨cl10, Ar10, -, S10, -, Hs10, -⟩ := id pr2
  have hin10 : ¬ ((0 : Int32) < 0 ∨ cl10.slots.size ≤ ((0 : Int32)).toNatClampNeg) := inb_of S10 ⟨by decide, by decide⟩
  have hat10 : cl10.slots[((0 : Int32)).toNatClampNeg]? = some (.int p3) := Hs10.at hin10 rfl
  obtain ⟨T11, X11, e11, st11⟩ := getS2 X2 hx hZ hown (host := "") (Or.inl (wd93 hw)) Via.refl e2 (pr3.ext OL0.2) (g := (mkF m 42 #[rv a1, iv (1 : Int32)] [(.int (p3 &&& (255 : Int32)))])) rfl (hb hby d18_42)
  obtain ⟨cl12, Ar12, -, S12, -, Hs12, -⟩ := id pr2
  have hin12 : ¬ ((1 : Int32) < 0 ∨ cl12.slots.size ≤ ((1 : Int32)).toNatClampNeg) := inb_of S12 ⟨by decide, by decide⟩
  have hat12 : cl12.slots[((1 : Int32)).toNatClampNeg]? = some (.int p4) := Hs12.at hin12 rfl
  obtain ⟨T13, X13, e13, st13⟩ := getS2 X11 hx hZ hown (host := "") (Or.inl (wd94 hw)) Via.refl e11 (pr4.ext OL0.2) (g := (mkF m 53 #[rv a1, iv (1 : Int32)] [(.int (p4 &&& (255 : Int32))), (.int ((p3 &&& (255 : Int32)) <<< ((0 : Int32) &&& 31)))])) rfl (hb hby d18_53)
  obtain ⟨fs, hr, hrun, hended, hW, hsame⟩ := X13.leave (v := some (.int (nar .char ((((p3 &&& (255 : Int32)) <<< ((0 : Int32) &&& 31)) ||| ((p4 &&& (255 : Int32)) <<< ((8 : Int32) &&& 31))).toUInt32.toUInt16.toUInt32.toInt32)))) (fun h => by rw [Bd.returns] at h; cases h)
  refine ⟨_, _, pre0 _ ?_, hrun, hended, _, _, rfl, ?_, ⟨_, rfl⟩, hW, hsame.mono (by decide) (by decide)⟩
  · show SS p e below s₁ m 0 #[rv a1, iv (0 : Int32)] [] _
    refine st2 _ ?_
    show SS p e below T2 m 3 #[rv a1, iv (0 : Int32)] [(.int (1 : Int32))] _
    refine XS.ifYes X2.here hx rfl (pc0 := 3) (pc' := 28) rfl (hb hby d18_3) rfl ((if0 _ _).trans (feq (by decide : ¬ ((1 : Int32) = (0 : Int32)))).2) (by decide) (by decide) ?_
    show SS p e below T2 m 28 #[rv a1, iv (0 : Int32)] [] _
    refine XS.iloadN X2.here hx rfl (hb hby d18_28) rfl ?_
    refine XS.iconst X2.here hx rfl (hb hby d18_29) ?_
    show SS p e below T2 m 30 #[rv a1, iv (0 : Int32)] [(.int (1 : Int32)), (.int (0 : Int32))] _
    refine XS.ishl X2.here hx rfl (hb hby d18_30) rfl ?_
    show SS p e below T2 m 31 #[rv a1, iv (0 : Int32)] [(.int (0 : Int32))] _
    refine XS.istoreN X2.here hx rfl (hb hby d18_31) rfl (l' := #[rv a1, iv (0 : Int32)]) rfl ?_
    refine XS.aloadN X2.here hx rfl (hb hby d18_32) rfl rfl ?_
    refine XS.iloadN X2.here hx rfl (hb hby d18_33) rfl ?_
    show SS p e below T2 m 34 #[rv a1, iv (0 : Int32)] [(.int (0 : Int32)), (.ref a1)] _
    refine XS.iinc X2.here hx rfl (hb hby d18_34) rfl (l' := #[rv a1, .val (.int ((0 : Int32) + (1 : Int32)))]) rfl ?_
    show SS p e below T2 m 37 #[rv a1, iv (1 : Int32)] [(.int (0 : Int32)), (.ref a1)] _
    refine X2.baloadBytes hx (j := (0 : Int32)) (v := (.int p3)) (by rw [e2]; exact Ar10.1) (State.isArrayOf_alike hZ.alike Ar10.2.1) Ar10.2.2 hin10 hat10 (g := (mkF m 37 #[rv a1, iv (1 : Int32)] [(.int (0 : Int32)), (.ref a1)])) rfl rfl (hb hby d18_37) _ ?_
    show SS p e below T2 m 38 #[rv a1, iv (1 : Int32)] [(.int p3)] _
    refine XS.sipush X2.here hx rfl (hb hby d18_38) ?_
    show SS p e below T2 m 41 #[rv a1, iv (1 : Int32)] [(.int (255 : Int32)), (.int p3)] _
    refine XS.iand X2.here hx rfl (hb hby d18_41) rfl ?_
    show SS p e below T2 m 42 #[rv a1, iv (1 : Int32)] [(.int (p3 &&& (255 : Int32)))] _
    refine st11 _ ?_
    show SS p e below T11 m 45 #[rv a1, iv (1 : Int32)] [(.int (0 : Int32)), (.int (p3 &&& (255 : Int32)))] _
    refine XS.ishl X11.here hx rfl (hb hby d18_45) rfl ?_
    show SS p e below T11 m 46 #[rv a1, iv (1 : Int32)] [(.int ((p3 &&& (255 : Int32)) <<< ((0 : Int32) &&& 31)))] _
    refine XS.aloadN X11.here hx rfl (hb hby d18_46) rfl rfl ?_
    refine XS.iloadN X11.here hx rfl (hb hby d18_47) rfl ?_
    show SS p e below T11 m 48 #[rv a1, iv (1 : Int32)] [(.int (1 : Int32)), (.ref a1), (.int ((p3 &&& (255 : Int32)) <<< ((0 : Int32) &&& 31)))] _
    refine X11.baloadBytes hx (j := (1 : Int32)) (v := (.int p4)) (by rw [e11]; exact Ar12.1) (State.isArrayOf_alike hZ.alike Ar12.2.1) Ar12.2.2 hin12 hat12 (g := (mkF m 48 #[rv a1, iv (1 : Int32)] [(.int (1 : Int32)), (.ref a1), (.int ((p3 &&& (255 : Int32)) <<< ((0 : Int32) &&& 31)))])) rfl rfl (hb hby d18_48) _ ?_
    show SS p e below T11 m 49 #[rv a1, iv (1 : Int32)] [(.int p4), (.int ((p3 &&& (255 : Int32)) <<< ((0 : Int32) &&& 31)))] _
    refine XS.sipush X11.here hx rfl (hb hby d18_49) ?_
    show SS p e below T11 m 52 #[rv a1, iv (1 : Int32)] [(.int (255 : Int32)), (.int p4), (.int ((p3 &&& (255 : Int32)) <<< ((0 : Int32) &&& 31)))] _
    refine XS.iand X11.here hx rfl (hb hby d18_52) rfl ?_
    show SS p e below T11 m 53 #[rv a1, iv (1 : Int32)] [(.int (p4 &&& (255 : Int32))), (.int ((p3 &&& (255 : Int32)) <<< ((0 : Int32) &&& 31)))] _
    refine st13 _ ?_
    show SS p e below T13 m 56 #[rv a1, iv (1 : Int32)] [(.int (8 : Int32)), (.int (p4 &&& (255 : Int32))), (.int ((p3 &&& (255 : Int32)) <<< ((0 : Int32) &&& 31)))] _
    refine XS.ishl X13.here hx rfl (hb hby d18_56) rfl ?_
    show SS p e below T13 m 57 #[rv a1, iv (1 : Int32)] [(.int ((p4 &&& (255 : Int32)) <<< ((8 : Int32) &&& 31))), (.int ((p3 &&& (255 : Int32)) <<< ((0 : Int32) &&& 31)))] _
    refine XS.ior X13.here hx rfl (hb hby d18_57) rfl ?_
    show SS p e below T13 m 58 #[rv a1, iv (1 : Int32)] [(.int (((p3 &&& (255 : Int32)) <<< ((0 : Int32) &&& 31)) ||| ((p4 &&& (255 : Int32)) <<< ((8 : Int32) &&& 31))))] _
    refine XS.i2c X13.here hx rfl (hb hby d18_58) rfl ?_
    show SS p e below T13 m 59 #[rv a1, iv (1 : Int32)] [(.int ((((p3 &&& (255 : Int32)) <<< ((0 : Int32) &&& 31)) ||| ((p4 &&& (255 : Int32)) <<< ((8 : Int32) &&& 31))).toUInt32.toUInt16.toUInt32.toInt32))] _
    exact retN X13 hx (t := .char) Bd.returns (by simp) (hb hby d18_59) hr
  · show Q_rm18_2 Z a1 p3 p4 p5 p6 p7 p8 k9 h0 n0 _ T13.heap _
    rw [e13]
    exact ⟨rfl, N0, rfl⟩
theorem ef_5_33 (m : MethodId) (x0 : Addr) : entryFrame m #[(.ref x0), (.int (0 : Int32)), (.int (3 : Int32))] 6 = mkF m 0 #[.val (.ref x0), .val (.int (0 : Int32)), .val (.int (3 : Int32)), .unset, .unset, .unset] [] := by first | (simp [entryFrame, mkF, argsToLocals, Value.category]; done) | rfl
def Q_rm5_3 (Z : State) (a1 : Addr) (p3 : Int32) (p4 : Int32) (p5 : Int32) (k6 : ClassId) (h0 : Heap) (n0 : Nat) (v : Option Value) (h : Heap) (L : List Loc) : Prop := ∃ b9_0 : Addr, ∃ kx9_0 : ClassId, v = some (.ref b9_0) ∧ Fr n0 L ∧ Keep h0 h [] ∧ h0.size ≤ b9_0 ∧ Arv Z h b9_0 kx9_0 .byte (6 : Int32) [(.int (((p3 >>> ((0 : Int32) &&& 31)).toInt8.toInt32).toInt8.toInt32)), (.int (((p3 >>> ((8 : Int32) &&& 31)).toInt8.toInt32).toInt8.toInt32)), (.int (((p4 >>> ((0 : Int32) &&& 31)).toInt8.toInt32).toInt8.toInt32)), (.int (((p4 >>> ((8 : Int32) &&& 31)).toInt8.toInt32).toInt8.toInt32)), (.int (((p5 >>> ((0 : Int32) &&& 31)).toInt8.toInt32).toInt8.toInt32)), (.int (((p5 >>> ((8 : Int32) &&& 31)).toInt8.toInt32).toInt8.toInt32))] (.int (0 : Int32))
set_option maxRecDepth 65536 in
set_option maxHeartbeats 40000000 in
theorem rm5_3 (l : Launch) (Z : State) (a0 : Array Value) (hw : ∀ d ∈ tables_1, d.before a0 Z = true) (ws : List Jvm.Cond) (a1 : Addr) (p3 : Int32) (p4 : Int32) (p5 : Int32) (k6 : ClassId) (h0 : Heap) (n0 : Nat) (OL0 : Old Z n0 h0) (pr1 : Arv Z h0 a1 k6 .char (3 : Int32) [(.int p3), (.int p4), (.int p5)] (.int (0 : Int32))) (pr2 : (255 : Int32) < p3) (pr3 : Sta Z Z.heap "java/lang/StringUTF16" "$assertionsDisabled" "Z" (.int (1 : Int32))) (pr4 : Sta Z Z.heap "java/lang/StringUTF16" "HI_BYTE_SHIFT" "I" (.int (0 : Int32))) (pr5 : Sta Z Z.heap "java/lang/StringUTF16" "LO_BYTE_SHIFT" "I" (.int (8 : Int32))) (pr6 : (255 : Int32) < (nar .char (((((((p3 >>> ((0 : Int32) &&& 31)).toInt8.toInt32).toInt8.toInt32) &&& (255 : Int32)) <<< ((0 : Int32) &&& 31)) ||| (((((p3 >>> ((8 : Int32) &&& 31)).toInt8.toInt32).toInt8.toInt32) &&& (255 : Int32)) <<< ((8 : Int32) &&& 31))).toUInt32.toUInt16.toUInt32.toInt32))) :
    MetFree l mn5 (head1 (Jvm.Cond.code mn5 jdk_52_method_16_code 6 (some (.array .byte)) :: ws) ({ frames := 3, cells := 2, slots := 9, locals := 40 } : Room)) (fun a U => a = #[(.ref a1), (.int (0 : Int32)), (.int (3 : Int32))] ∧ Z.Warmed39 U.vm ∧ U.heap = h0) (fun _ _ _ _ _ => True) (fun _ U o U' => ∃ v L, o = .returned v ∧ Q_rm5_3 Z a1 p3 p4 p5 k6 h0 n0 v U'.heap L ∧ FrameEnd U o U' L ({ frames := 3, cells := 2, slots := 9, locals := 40 } : Room).cells ({ frames := 3, cells := 2, slots := 9, locals := 40 } : Room).slots) := by
  refine MetFree.of_bodySF (plainFor_of_name pn_6) hisR ?_
  intro p e s m args below meth c s₁ Bd hml0 hP hK
  obtain ⟨rfl, hZ, hh⟩ := hP
  have hx := Bd.exec
  have hby := Bd.bytes
  have hml : c.maxLocals = 6 := hml0
  have hown : s.vm.findClass "java/lang/StringUTF16" = some m.cls := findClass_of_methodNamed Bd.named
  have hnm := (name_of_methodNamed Bd.named Bd.method).1
  have X0 : Stand p l e ({ frames := 3, cells := 2, slots := 9, locals := 40 } : Room) s m #[(.ref a1), (.int (0 : Int32)), (.int (3 : Int32))] below meth c s₁ [] 0 0 := Stand.of_body Bd
  have e0 : s₁.heap = h0 := by rw [← hh, Bd.state]; rfl
  have N0 := Fr.nil n0
  have pre0 : ∀ t, SS p e below s₁ m 0 #[rv a1, iv (0 : Int32), iv (3 : Int32), .unset, .unset, .unset] [] t → Steps p.tables e below (s₁.setTop (entryFrame m #[(.ref a1), (.int (0 : Int32)), (.int (3 : Int32))] 6)) t := fun t k => castTop (ef_5_33 m a1) k
  obtain ⟨T2, h2, k2, X2, e2, E2, A2, st2⟩ := newP (aty := .byte) X0 hx hZ (wd24 hw) e0 (g := (mkF m 1 #[rv a1, iv (0 : Int32), iv (3 : Int32), .unset, .unset, .unset] [(.int (3 : Int32))])) rfl (hb hby d5_1) rfl (by decide) (cap := 3) (by decide) (by decide) (by decide) (by decide)
  obtain ⟨b2, g2⟩ : ∃ z, z = h0.size := ⟨_, rfl⟩
  rw [← g2] at A2 st2
  have V2 : Arv Z h2 b2 k2 .byte (3 : Int32) [(.int (0 : Int32)), (.int (0 : Int32)), (.int (0 : Int32))] (.int (0 : Int32)) := (Arv.new A2 (by decide)).pad (pad_rep [] (.int (0 : Int32)) 3)
  have g_b2 : n0 ≤ b2 := (Nat.le_trans (Nat.le_trans (Nat.le_of_eq OL0.1.symm) OL0.2.1) (Nat.le_of_eq g2.symm))
  have sz_b2 : h0.size ≤ b2 := (Nat.le_trans (Keep.refl h0 []).1 (Nat.le_of_eq g2.symm))
  have KK2 : Keep h0 h2 [] := (Keep.refl h0 []).ext E2
  have OL2 := OL0.ext E2
  have fc8 := (pr1.ext E2)
  obtain ⟨_, _, ⟨T7, L7, k7, n7⟩, -, X7, ⟨Lc7, hQ7, l7, y7, z7⟩, st7⟩ := Jvm.LawKit.callS X2 hx (y := mn6) hown (mvT hZ (wd25 hw)) (mvT hZ (wd26 hw)) (mvT hZ (wd22 hw)) (mvT hZ (wd27 hw)) (by decide) (backOf (W := 0) (rm6_3 l Z a0 hw [] a1 b2 p3 p4 p5 k6 h2 n0 OL2 fc8 pr2) hZ (wd27 hw) (wd22 hw) (by decide) (by decide)) (g := (mkF m 9 #[rv a1, iv (0 : Int32), iv (3 : Int32), rv b2, .unset, .unset] [(.int (3 : Int32)), (.int (0 : Int32)), (.ref b2), (.int (0 : Int32)), (.ref a1)])) rfl (by rw [hml]; rfl) (argsL := [(.ref a1), (.int (0 : Int32)), (.ref b2), (.int (0 : Int32)), (.int (3 : Int32))]) (rest := []) (lenOf pd_14 rfl) rfl (by show 2 * 0 + _ ≤ _; exact Nat.le_of_eq rfl) (hb hby d5_9) (fun _ _ => ⟨rfl, e2, (by decide : 1 + 0 ≤ _), (by decide : 3 + 0 ≤ _)⟩)
  dsimp only [Pt.U, Pt.locs, Pt.cells, Pt.slots] at X7 l7 y7 z7 st7 hQ7
  subst l7 y7 z7
  obtain ⟨rfl, Nq7, ec7⟩ := hQ7
  have N7 := Fr.app N0 Nq7
  obtain ⟨_, _, ⟨T9, L9, k9, n9⟩, -, X9, ⟨Lc9, hQ9, l9, y9, z9⟩, st9⟩ := Jvm.LawKit.callS X7 hx (y := mn14) hown (mvT hZ (wd79 hw)) (mvT hZ (wd80 hw)) (mvT hZ (wd22 hw)) (mvT hZ (wd81 hw)) (by decide) (backOf (W := 0) (rm14_1 l Z a0 hw [] a1 p3 p4 p5 k6 h2 n0 OL2 fc8 pr3 pr4 pr5) hZ (wd81 hw) (wd22 hw) (by decide) (by decide)) (g := (mkF m 23 #[rv a1, iv (0 : Int32), iv (3 : Int32), rv b2, iv (0 : Int32), .unset] [(.int (3 : Int32)), (.int (0 : Int32)), (.ref a1)])) rfl (by rw [hml]; rfl) (argsL := [(.ref a1), (.int (0 : Int32)), (.int (3 : Int32))]) (rest := []) (lenOf pd_17 rfl) rfl (by show 2 * 0 + _ ≤ _; exact Nat.le_of_eq rfl) (hb hby d5_23) (fun _ _ => ⟨rfl, ec7, (by decide : 1 + 1 ≤ _), (by decide : 3 + 6 ≤ _)⟩)
  dsimp only [Pt.U, Pt.locs, Pt.cells, Pt.slots] at X9 l9 y9 z9 st9 hQ9
  subst l9 y9 z9
  obtain ⟨b9_0, kx9_0, rfl, Nq9, K9, u9_0, u9_1⟩ := hQ9
  have KK9 : Keep h0 T9.heap [] := KK2.trans K9 all0
  have OL9 := OL2.keep K9 all0
  have g_b9_0 : n0 ≤ b9_0 := Nat.le_trans (Nat.le_trans (Nat.le_of_eq OL2.1.symm) OL2.2.1) u9_0
  have sz_b9_0 : h0.size ≤ b9_0 := Nat.le_trans KK2.1 u9_0
  have N9 := Fr.app N7 Nq9
  obtain ⟨_, _, ⟨T10, L10, k10, n10⟩, -, X10, ⟨Lc10, hQ10, l10, y10, z10⟩, st10⟩ := Jvm.LawKit.callS X9 hx (y := mn18) hown (mvT hZ (wd95 hw)) (mvT hZ (wd96 hw)) (mvT hZ (wd22 hw)) (mvT hZ (wd97 hw)) (by decide) (backOf (W := 0) (rm18_2 l Z a0 hw [] b9_0 (((p3 >>> ((0 : Int32) &&& 31)).toInt8.toInt32).toInt8.toInt32) (((p3 >>> ((8 : Int32) &&& 31)).toInt8.toInt32).toInt8.toInt32) (((p4 >>> ((0 : Int32) &&& 31)).toInt8.toInt32).toInt8.toInt32) (((p4 >>> ((8 : Int32) &&& 31)).toInt8.toInt32).toInt8.toInt32) (((p5 >>> ((0 : Int32) &&& 31)).toInt8.toInt32).toInt8.toInt32) (((p5 >>> ((8 : Int32) &&& 31)).toInt8.toInt32).toInt8.toInt32) kx9_0 T9.heap n0 OL9 pr3 u9_1 pr4 pr5) hZ (wd97 hw) (wd22 hw) (by decide) (by decide)) (g := (mkF m 32 #[rv a1, iv (0 : Int32), iv (3 : Int32), rv b2, iv (0 : Int32), rv b9_0] [(.int (0 : Int32)), (.ref b9_0)])) rfl (by rw [hml]; rfl) (argsL := [(.ref b9_0), (.int (0 : Int32))]) (rest := []) (lenOf pd_18 rfl) rfl (by show 2 * 0 + _ ≤ _; exact Nat.le_of_eq rfl) (hb hby d5_32) (fun _ _ => ⟨rfl, rfl, (by decide : 2 + 0 ≤ _), (by decide : 9 + 0 ≤ _)⟩)
  dsimp only [Pt.U, Pt.locs, Pt.cells, Pt.slots] at X10 l10 y10 z10 st10 hQ10
  subst l10 y10 z10
  obtain ⟨rfl, Nq10, ec10⟩ := hQ10
  have N10 := Fr.app N9 Nq10
  obtain ⟨fs, hr, hrun, hended, hW, hsame⟩ := X10.leave (v := some (.ref b9_0)) (fun h => by rw [Bd.returns] at h; cases h)
  refine ⟨_, _, pre0 _ ?_, hrun, hended, _, _, rfl, ?_, ⟨_, rfl⟩, hW, hsame.mono (by decide) (by decide)⟩
  · show SS p e below s₁ m 0 #[rv a1, iv (0 : Int32), iv (3 : Int32), .unset, .unset, .unset] [] _
    refine XS.iloadN X0.here hx rfl (hb hby d5_0) rfl ?_
    show SS p e below s₁ m 1 #[rv a1, iv (0 : Int32), iv (3 : Int32), .unset, .unset, .unset] [(.int (3 : Int32))] _
    refine st2 _ ?_
    show SS p e below T2 m 3 #[rv a1, iv (0 : Int32), iv (3 : Int32), .unset, .unset, .unset] [(.ref b2)] _
    refine XS.astoreN X2.here hx rfl (hb hby d5_3) rfl rfl (l' := #[rv a1, iv (0 : Int32), iv (3 : Int32), rv b2, .unset, .unset]) rfl ?_
    refine XS.aloadN X2.here hx rfl (hb hby d5_4) rfl rfl ?_
    refine XS.iloadN X2.here hx rfl (hb hby d5_5) rfl ?_
    refine XS.aloadN X2.here hx rfl (hb hby d5_6) rfl rfl ?_
    show SS p e below T2 m 7 #[rv a1, iv (0 : Int32), iv (3 : Int32), rv b2, .unset, .unset] [(.ref b2), (.int (0 : Int32)), (.ref a1)] _
    refine XS.iconst X2.here hx rfl (hb hby d5_7) ?_
    refine XS.iloadN X2.here hx rfl (hb hby d5_8) rfl ?_
    show SS p e below T2 m 9 #[rv a1, iv (0 : Int32), iv (3 : Int32), rv b2, .unset, .unset] [(.int (3 : Int32)), (.int (0 : Int32)), (.ref b2), (.int (0 : Int32)), (.ref a1)] _
    refine st7 _ ?_
    show SS p e below T7 m 12 #[rv a1, iv (0 : Int32), iv (3 : Int32), rv b2, .unset, .unset] [(.int (0 : Int32))] _
    refine XS.istore X7.here hx rfl (hb hby d5_12) rfl (l' := #[rv a1, iv (0 : Int32), iv (3 : Int32), rv b2, iv (0 : Int32), .unset]) rfl ?_
    refine XS.iload X7.here hx rfl (hb hby d5_14) rfl ?_
    refine XS.iloadN X7.here hx rfl (hb hby d5_16) rfl ?_
    show SS p e below T7 m 17 #[rv a1, iv (0 : Int32), iv (3 : Int32), rv b2, iv (0 : Int32), .unset] [(.int (3 : Int32)), (.int (0 : Int32))] _
    refine XS.icmpNo X7.here hx rfl (hb hby d5_17) rfl (feq (by decide : ¬ ((0 : Int32) = (3 : Int32)))).1 ?_
    show SS p e below T7 m 20 #[rv a1, iv (0 : Int32), iv (3 : Int32), rv b2, iv (0 : Int32), .unset] [] _
    refine XS.aloadN X7.here hx rfl (hb hby d5_20) rfl rfl ?_
    refine XS.iloadN X7.here hx rfl (hb hby d5_21) rfl ?_
    refine XS.iloadN X7.here hx rfl (hb hby d5_22) rfl ?_
    show SS p e below T7 m 23 #[rv a1, iv (0 : Int32), iv (3 : Int32), rv b2, iv (0 : Int32), .unset] [(.int (3 : Int32)), (.int (0 : Int32)), (.ref a1)] _
    refine st9 _ ?_
    show SS p e below T9 m 26 #[rv a1, iv (0 : Int32), iv (3 : Int32), rv b2, iv (0 : Int32), .unset] [(.ref b9_0)] _
    refine XS.astore X9.here hx rfl (hb hby d5_26) rfl rfl (l' := #[rv a1, iv (0 : Int32), iv (3 : Int32), rv b2, iv (0 : Int32), rv b9_0]) rfl ?_
    refine XS.aload X9.here hx rfl (hb hby d5_28) rfl rfl ?_
    refine XS.iload X9.here hx rfl (hb hby d5_30) rfl ?_
    show SS p e below T9 m 32 #[rv a1, iv (0 : Int32), iv (3 : Int32), rv b2, iv (0 : Int32), rv b9_0] [(.int (0 : Int32)), (.ref b9_0)] _
    refine st10 _ ?_
    show SS p e below T10 m 35 #[rv a1, iv (0 : Int32), iv (3 : Int32), rv b2, iv (0 : Int32), rv b9_0] [(.int (nar .char (((((((p3 >>> ((0 : Int32) &&& 31)).toInt8.toInt32).toInt8.toInt32) &&& (255 : Int32)) <<< ((0 : Int32) &&& 31)) ||| (((((p3 >>> ((8 : Int32) &&& 31)).toInt8.toInt32).toInt8.toInt32) &&& (255 : Int32)) <<< ((8 : Int32) &&& 31))).toUInt32.toUInt16.toUInt32.toInt32)))] _
    refine XS.sipush X10.here hx rfl (hb hby d5_35) ?_
    show SS p e below T10 m 38 #[rv a1, iv (0 : Int32), iv (3 : Int32), rv b2, iv (0 : Int32), rv b9_0] [(.int (255 : Int32)), (.int (nar .char (((((((p3 >>> ((0 : Int32) &&& 31)).toInt8.toInt32).toInt8.toInt32) &&& (255 : Int32)) <<< ((0 : Int32) &&& 31)) ||| (((((p3 >>> ((8 : Int32) &&& 31)).toInt8.toInt32).toInt8.toInt32) &&& (255 : Int32)) <<< ((8 : Int32) &&& 31))).toUInt32.toUInt16.toUInt32.toInt32)))] _
    refine XS.icmpYes X10.here hx rfl (pc0 := 38) (pc' := 54) rfl (hb hby d5_38) rfl (tlt pr6).2.2.1 (by decide) (by decide) ?_
    show SS p e below T10 m 54 #[rv a1, iv (0 : Int32), iv (3 : Int32), rv b2, iv (0 : Int32), rv b9_0] [] _
    refine XS.aload X10.here hx rfl (hb hby d5_54) rfl rfl ?_
    show SS p e below T10 m 56 #[rv a1, iv (0 : Int32), iv (3 : Int32), rv b2, iv (0 : Int32), rv b9_0] [(.ref b9_0)] _
    jvm_step X10.here [X10.here.top, hx, (hb hby d5_56), X10.method', Bd.returns, Value.isRef, FieldType.isReference]
    first | (intro acts; rw [hr _ acts rfl rfl rfl]) | rw [hr _ _ rfl rfl rfl]
    exact Steps.refl _
  · show Q_rm5_3 Z a1 p3 p4 p5 k6 h0 n0 _ T10.heap _
    rw [ec10]
    exact ⟨b9_0, kx9_0, rfl, N10, KK9, sz_b9_0, u9_1⟩
theorem ef_7_34 (m : MethodId) (x0 : Addr) : entryFrame m #[(.ref x0), (.int (3 : Int32))] 2 = mkF m 0 #[.val (.ref x0), .val (.int (3 : Int32))] [] := by first | (simp [entryFrame, mkF, argsToLocals, Value.category]; done) | rfl
def Q_rm7_2 (Z : State) (a1 : Addr) (p2 : Int32) (p3 : Int32) (p4 : Int32) (p5 : Int32) (p6 : Int32) (p7 : Int32) (k8 : ClassId) (h0 : Heap) (n0 : Nat) (v : Option Value) (h : Heap) (L : List Loc) : Prop := v = some (.int (1 : Int32)) ∧ Fr n0 L ∧ h = h0
set_option maxRecDepth 65536 in
set_option maxHeartbeats 40000000 in
theorem rm7_2 (l : Launch) (Z : State) (a0 : Array Value) (hw : ∀ d ∈ tables_1, d.before a0 Z = true) (ws : List Jvm.Cond) (a1 : Addr) (p2 : Int32) (p3 : Int32) (p4 : Int32) (p5 : Int32) (p6 : Int32) (p7 : Int32) (k8 : ClassId) (h0 : Heap) (n0 : Nat) (OL0 : Old Z n0 h0) (pr1 : Arv Z h0 a1 k8 .byte (6 : Int32) [(.int p2), (.int p3), (.int p4), (.int p5), (.int p6), (.int p7)] (.int (0 : Int32))) :
    MetFree l mn7 (head1 (Jvm.Cond.code mn7 jdk_52_method_15_code 2 (some .byte) :: ws) ({ frames := 0, cells := 0, slots := 0, locals := 0 } : Room)) (fun a U => a = #[(.ref a1), (.int (3 : Int32))] ∧ Z.Warmed39 U.vm ∧ U.heap = h0) (fun _ _ _ _ _ => True) (fun _ U o U' => ∃ v L, o = .returned v ∧ Q_rm7_2 Z a1 p2 p3 p4 p5 p6 p7 k8 h0 n0 v U'.heap L ∧ FrameEnd U o U' L ({ frames := 0, cells := 0, slots := 0, locals := 0 } : Room).cells ({ frames := 0, cells := 0, slots := 0, locals := 0 } : Room).slots) := by
  refine MetFree.of_bodySF (plainFor_of_name pn_6) hisR ?_
  intro p e s m args below meth c s₁ Bd hml0 hP hK
  obtain ⟨rfl, hZ, hh⟩ := hP
  have hx := Bd.exec
  have hby := Bd.bytes
  have hml : c.maxLocals = 2 := hml0
  have hown : s.vm.findClass "java/lang/StringUTF16" = some m.cls := findClass_of_methodNamed Bd.named
  have hnm := (name_of_methodNamed Bd.named Bd.method).1
  have X0 : Stand p l e ({ frames := 0, cells := 0, slots := 0, locals := 0 } : Room) s m #[(.ref a1), (.int (3 : Int32))] below meth c s₁ [] 0 0 := Stand.of_body Bd
  have e0 : s₁.heap = h0 := by rw [← hh, Bd.state]; rfl
  have N0 := Fr.nil n0
  have pre0 : ∀ t, SS p e below s₁ m 0 #[rv a1, iv (3 : Int32)] [] t → Steps p.tables e below (s₁.setTop (entryFrame m #[(.ref a1), (.int (3 : Int32))] 2)) t := fun t k => castTop (ef_7_34 m a1) k
  obtain ⟨cl9, Ar9, -, Sz9, Nn9, -, -⟩ := id pr1
  obtain ⟨fs, hr, hrun, hended, hW, hsame⟩ := X0.leave (v := some (.int (1 : Int32))) (fun h => by rw [Bd.returns] at h; cases h)
  refine ⟨_, _, pre0 _ ?_, hrun, hended, _, _, rfl, ?_, ⟨_, rfl⟩, hW, hsame.mono (by decide) (by decide)⟩
  · show SS p e below s₁ m 0 #[rv a1, iv (3 : Int32)] [] _
    refine XS.iloadN X0.here hx rfl (hb hby d7_0) rfl ?_
    refine XS.aloadN X0.here hx rfl (hb hby d7_1) rfl rfl ?_
    show SS p e below s₁ m 2 #[rv a1, iv (3 : Int32)] [(.ref a1), (.int (3 : Int32))] _
    refine X0.arraylength hx (by rw [e0]; exact Ar9.1) (State.isArrayOf_alike hZ.alike Ar9.2.1) (g := (mkF m 2 #[rv a1, iv (3 : Int32)] [(.ref a1), (.int (3 : Int32))])) rfl rfl (hb hby d7_2) _ ?_
    rw [len_of Sz9 Nn9]
    show SS p e below s₁ m 3 #[rv a1, iv (3 : Int32)] [(.int (6 : Int32)), (.int (3 : Int32))] _
    refine XS.isub X0.here hx rfl (hb hby d7_3) rfl ?_
    show SS p e below s₁ m 4 #[rv a1, iv (3 : Int32)] [(.int (-3 : Int32))] _
    refine XS.bipush X0.here hx rfl (hb hby d7_4) ?_
    show SS p e below s₁ m 6 #[rv a1, iv (3 : Int32)] [(.int (31 : Int32)), (.int (-3 : Int32))] _
    refine XS.iushr X0.here hx rfl (hb hby d7_6) rfl ?_
    show SS p e below s₁ m 7 #[rv a1, iv (3 : Int32)] [(.int (1 : Int32))] _
    refine XS.i2b X0.here hx rfl (hb hby d7_7) rfl ?_
    show SS p e below s₁ m 8 #[rv a1, iv (3 : Int32)] [(.int (1 : Int32))] _
    exact retN X0 hx (t := .byte) Bd.returns (by simp) (hb hby d7_8) hr
  · show Q_rm7_2 Z a1 p2 p3 p4 p5 p6 p7 k8 h0 n0 _ s₁.heap _
    rw [e0]
    exact ⟨rfl, N0, rfl⟩
theorem ef_3_35 (m : MethodId) (x0 : Addr) (x1 : Addr) : entryFrame m #[(.ref x0), (.ref x1), (.int (0 : Int32)), (.int (3 : Int32)), .null] 6 = mkF m 0 #[.val (.ref x0), .val (.ref x1), .val (.int (0 : Int32)), .val (.int (3 : Int32)), .val .null, .unset] [] := by first | (simp [entryFrame, mkF, argsToLocals, Value.category]; done) | rfl
def Q_rm3_4 (Z : State) (a1 : Addr) (a2 : Addr) (p4 : Int32) (p6 : Int32) (p7 : Int32) (p8 : Int32) (k9 : ClassId) (h0 : Heap) (n0 : Nat) (v : Option Value) (h : Heap) (L : List Loc) : Prop := ∃ b10_0 : Addr, ∃ kx10_0 : ClassId, v = none ∧ Fr n0 L ∧ Keep h0 h [a1] ∧ h0.size ≤ b10_0 ∧ Fld Z h a1 "java/lang/String" "coder" "B" (.int (1 : Int32)) ∧ Fld Z h a1 "java/lang/String" "value" "[B" (.ref b10_0) ∧ Arv Z h b10_0 kx10_0 .byte (6 : Int32) [(.int (((p6 >>> ((0 : Int32) &&& 31)).toInt8.toInt32).toInt8.toInt32)), (.int (((p6 >>> ((8 : Int32) &&& 31)).toInt8.toInt32).toInt8.toInt32)), (.int (((p7 >>> ((0 : Int32) &&& 31)).toInt8.toInt32).toInt8.toInt32)), (.int (((p7 >>> ((8 : Int32) &&& 31)).toInt8.toInt32).toInt8.toInt32)), (.int (((p8 >>> ((0 : Int32) &&& 31)).toInt8.toInt32).toInt8.toInt32)), (.int (((p8 >>> ((8 : Int32) &&& 31)).toInt8.toInt32).toInt8.toInt32))] (.int (0 : Int32))
set_option maxRecDepth 65536 in
set_option maxHeartbeats 40000000 in
theorem rm3_4 (l : Launch) (Z : State) (a0 : Array Value) (hw : ∀ d ∈ tables_1, d.before a0 Z = true) (ws : List Jvm.Cond) (a1 : Addr) (a2 : Addr) (p4 : Int32) (p6 : Int32) (p7 : Int32) (p8 : Int32) (k9 : ClassId) (h0 : Heap) (n0 : Nat) (OL0 : Old Z n0 h0) (pr1 : Sta Z Z.heap "java/lang/String" "COMPACT_STRINGS" "Z" (.int p4)) (pr2 : ¬ (p4 = (0 : Int32))) (pr3 : Arv Z h0 a2 k9 .char (3 : Int32) [(.int p6), (.int p7), (.int p8)] (.int (0 : Int32))) (pr4 : (255 : Int32) < p6) (pr5 : Sta Z Z.heap "java/lang/StringUTF16" "$assertionsDisabled" "Z" (.int (1 : Int32))) (pr6 : Sta Z Z.heap "java/lang/StringUTF16" "HI_BYTE_SHIFT" "I" (.int (0 : Int32))) (pr7 : Sta Z Z.heap "java/lang/StringUTF16" "LO_BYTE_SHIFT" "I" (.int (8 : Int32))) (pr8 : (255 : Int32) < (nar .char (((((((p6 >>> ((0 : Int32) &&& 31)).toInt8.toInt32).toInt8.toInt32) &&& (255 : Int32)) <<< ((0 : Int32) &&& 31)) ||| (((((p6 >>> ((8 : Int32) &&& 31)).toInt8.toInt32).toInt8.toInt32) &&& (255 : Int32)) <<< ((8 : Int32) &&& 31))).toUInt32.toUInt16.toUInt32.toInt32))) (pr9 : Exa Z h0 a1 "java/lang/String") (pr10 : Fld Z h0 a1 "java/lang/String" "coder" "B" (.int (0 : Int32))) (pr11 : n0 ≤ a1) (pr12 : Fld Z h0 a1 "java/lang/String" "value" "[B" .null) :
    MetFree l mn3 (head1 (Jvm.Cond.code mn3 jdk_42_method_149_code 6 none :: ws) ({ frames := 4, cells := 2, slots := 9, locals := 57 } : Room)) (fun a U => a = #[(.ref a1), (.ref a2), (.int (0 : Int32)), (.int (3 : Int32)), .null] ∧ Z.Warmed39 U.vm ∧ U.heap = h0) (fun _ _ _ _ _ => True) (fun _ U o U' => ∃ v L, o = .returned v ∧ Q_rm3_4 Z a1 a2 p4 p6 p7 p8 k9 h0 n0 v U'.heap L ∧ FrameEnd U o U' L ({ frames := 4, cells := 2, slots := 9, locals := 57 } : Room).cells ({ frames := 4, cells := 2, slots := 9, locals := 57 } : Room).slots) := by
  refine MetFree.of_bodySF (plainFor_of_name pn_0) hisR ?_
  intro p e s m args below meth c s₁ Bd hml0 hP hK
  obtain ⟨rfl, hZ, hh⟩ := hP
  have hx := Bd.exec
  have hby := Bd.bytes
  have hml : c.maxLocals = 6 := hml0
  have hown : s.vm.findClass "java/lang/String" = some m.cls := findClass_of_methodNamed Bd.named
  have hnm := (name_of_methodNamed Bd.named Bd.method).1
  have X0 : Stand p l e ({ frames := 4, cells := 2, slots := 9, locals := 57 } : Room) s m #[(.ref a1), (.ref a2), (.int (0 : Int32)), (.int (3 : Int32)), .null] below meth c s₁ [] 0 0 := Stand.of_body Bd
  have e0 : s₁.heap = h0 := by rw [← hh, Bd.state]; rfl
  have N0 := Fr.nil n0
  have pre0 : ∀ t, SS p e below s₁ m 0 #[rv a1, rv a2, iv (0 : Int32), iv (3 : Int32), .val .null, .unset] [] t → Steps p.tables e below (s₁.setTop (entryFrame m #[(.ref a1), (.ref a2), (.int (0 : Int32)), (.int (3 : Int32)), .null] 6)) t := fun t k => castTop (ef_3_35 m a1 a2) k
  obtain ⟨T3, X3, e3, st3⟩ := initO X0 hx hZ hown (wd16 hw) (wd17 hw) (wd18 hw) e0 (g := (mkF m 1 #[rv a1, rv a2, iv (0 : Int32), iv (3 : Int32), .val .null, .unset] [(.ref a1)])) rfl (by rw [hml]; rfl) rfl (hb hby d3_1) (by decide) (W := 0) (by show 2 * 0 + _ ≤ _; exact Nat.le_of_eq rfl) (by decide)
  obtain ⟨T5, X5, e5, st5⟩ := getS2 X3 hx hZ hown (host := "") (Or.inl (wd19 hw)) Via.refl e3 (pr1.ext OL0.2) (g := (mkF m 27 #[rv a1, rv a2, iv (0 : Int32), iv (3 : Int32), .val .null, .unset] [])) rfl (hb hby d3_27)
  obtain ⟨_, _, ⟨T10, L10, k10, n10⟩, -, X10, ⟨Lc10, hQ10, l10, y10, z10⟩, st10⟩ := Jvm.LawKit.callS X5 hx (y := mn5) hown (mvT hZ (wd20 hw)) (mvT hZ (wd21 hw)) (mvT hZ (wd22 hw)) (mvT hZ (wd23 hw)) (by decide) (backOf (W := 0) (rm5_3 l Z a0 hw [] a2 p6 p7 p8 k9 h0 n0 OL0 pr3 pr4 pr5 pr6 pr7 pr8) hZ (wd23 hw) (wd22 hw) (by decide) (by decide)) (g := (mkF m 36 #[rv a1, rv a2, iv (0 : Int32), iv (3 : Int32), .val .null, .unset] [(.int (3 : Int32)), (.int (0 : Int32)), (.ref a2)])) rfl (by rw [hml]; rfl) (argsL := [(.ref a2), (.int (0 : Int32)), (.int (3 : Int32))]) (rest := []) (lenOf pd_17 rfl) rfl (by show 2 * 0 + _ ≤ _; exact Nat.le_of_eq rfl) (hb hby d3_36) (fun _ _ => ⟨rfl, e5, (by decide : 0 + 2 ≤ _), (by decide : 0 + 9 ≤ _)⟩)
  dsimp only [Pt.U, Pt.locs, Pt.cells, Pt.slots] at X10 l10 y10 z10 st10 hQ10
  subst l10 y10 z10
  obtain ⟨b10_0, kx10_0, rfl, Nq10, K10, u10_0, u10_1⟩ := hQ10
  have KK10 : Keep h0 T10.heap [a1] := (Keep.refl h0 [a1]).trans K10 all0
  have OL10 := OL0.keep K10 all0
  have g_b10_0 : n0 ≤ b10_0 := Nat.le_trans (Nat.le_trans (Nat.le_of_eq OL0.1.symm) OL0.2.1) u10_0
  have sz_b10_0 : h0.size ≤ b10_0 := Nat.le_trans (Keep.refl h0 [a1]).1 u10_0
  have N10 := Fr.app N0 Nq10
  obtain ⟨_, _, ⟨T11, L11, k11, n11⟩, -, X11, ⟨Lc11, hQ11, l11, y11, z11⟩, st11⟩ := Jvm.LawKit.callS X10 hx (y := mn7) hown (mvT hZ (wd28 hw)) (mvT hZ (wd29 hw)) (mvT hZ (wd22 hw)) (mvT hZ (wd30 hw)) (by decide) (backOf (W := 1) (rm7_2 l Z a0 hw [] b10_0 (((p6 >>> ((0 : Int32) &&& 31)).toInt8.toInt32).toInt8.toInt32) (((p6 >>> ((8 : Int32) &&& 31)).toInt8.toInt32).toInt8.toInt32) (((p7 >>> ((0 : Int32) &&& 31)).toInt8.toInt32).toInt8.toInt32) (((p7 >>> ((8 : Int32) &&& 31)).toInt8.toInt32).toInt8.toInt32) (((p8 >>> ((0 : Int32) &&& 31)).toInt8.toInt32).toInt8.toInt32) (((p8 >>> ((8 : Int32) &&& 31)).toInt8.toInt32).toInt8.toInt32) kx10_0 T10.heap n0 OL10 u10_1) hZ (wd30 hw) (wd22 hw) (by decide) (by decide)) (g := (mkF m 45 #[rv a1, rv a2, iv (0 : Int32), iv (3 : Int32), .val .null, rv b10_0] [(.int (3 : Int32)), (.ref b10_0), (.ref a1)])) rfl (by rw [hml]; rfl) (argsL := [(.ref b10_0), (.int (3 : Int32))]) (rest := [(.ref a1)]) (lenOf pd_19 rfl) rfl (by show 2 * 0 + _ ≤ _; exact Nat.le_of_eq rfl) (hb hby d3_45) (fun _ _ => ⟨rfl, rfl, (by decide : 2 + 0 ≤ _), (by decide : 9 + 0 ≤ _)⟩)
  dsimp only [Pt.U, Pt.locs, Pt.cells, Pt.slots] at X11 l11 y11 z11 st11 hQ11
  subst l11 y11 z11
  obtain ⟨rfl, Nq11, ec11⟩ := hQ11
  have N11 := Fr.app N10 Nq11
  have fc12 := (pr9.keep K10)
  have fc13 := (pr10.keep K10 nin0)
  obtain ⟨T14, h14, X14, e14, W14, st14⟩ := putFN X11 hx hZ hown (wd31 hw) Via.refl ec11 fc13 fc12 (Or.inr ⟨(wd32 hw), rfl, hnm⟩) (wd6 hw) (ty := .byte) (v' := (.int (1 : Int32))) (by decide) rfl rfl (g := (mkF m 48 #[rv a1, rv a2, iv (0 : Int32), iv (3 : Int32), .val .null, rv b10_0] [(.int (1 : Int32)), (.ref a1)])) rfl rfl (hb hby d3_48)
  have Fw14 := fc13.same W14
  have KK14 : Keep h0 h14 [a1] := KK10.wr W14 (Or.inl (List.mem_of_getElem? (i := 0) rfl))
  have OL14 := OL10.wr W14 pr11
  have N14 := Fr.snoc X14 N11 pr11
  have fc15 := (fc12.wr W14)
  have fc16 := ((pr12.keep K10 nin0).other W14 (Or.inr (slot_ne (Or.inr (wd34 hw)) (Or.inr (wd32 hw)) (by decide) (t := (.array .byte)) (t' := .byte) (by decide) (by decide))))
  obtain ⟨T17, h17, X17, e17, W17, st17⟩ := putF X14 hx hZ hown (host := "") (Or.inl (wd33 hw)) Via.refl e14 fc16 fc15 (Or.inr ⟨(wd34 hw), rfl, hnm⟩) (wd6 hw) (ty := (.array .byte)) (by decide) rfl rfl (g := (mkF m 54 #[rv a1, rv a2, iv (0 : Int32), iv (3 : Int32), .val .null, rv b10_0] [(.ref b10_0), (.ref a1)])) rfl rfl (hb hby d3_54)
  have Fw17 := fc16.same W17
  have KK17 : Keep h0 h17 [a1] := KK14.wr W17 (Or.inl (List.mem_of_getElem? (i := 0) rfl))
  have OL17 := OL14.wr W17 pr11
  have N17 := Fr.snoc X17 N14 pr11
  have fc18 := (Fw14.other W17 (Or.inr (slot_ne (Or.inr (wd32 hw)) (Or.inr (wd34 hw)) (by decide) (t := .byte) (t' := (.array .byte)) (by decide) (by decide))))
  have fc19 := ((u10_1.other W14 (Ne.symm (Nat.ne_of_lt (Nat.lt_of_lt_of_le pr9.lt sz_b10_0)))).other W17 (Ne.symm (Nat.ne_of_lt (Nat.lt_of_lt_of_le pr9.lt sz_b10_0))))
  obtain ⟨fs, hr, hrun, hended, hW, hsame⟩ := X17.leave (v := none) (fun _ => rfl)
  refine ⟨_, _, pre0 _ ?_, hrun, hended, _, _, rfl, ?_, ⟨_, rfl⟩, hW, hsame.mono (by decide) (by decide)⟩
  · show SS p e below s₁ m 0 #[rv a1, rv a2, iv (0 : Int32), iv (3 : Int32), .val .null, .unset] [] _
    refine XS.aloadN X0.here hx rfl (hb hby d3_0) rfl rfl ?_
    show SS p e below s₁ m 1 #[rv a1, rv a2, iv (0 : Int32), iv (3 : Int32), .val .null, .unset] [(.ref a1)] _
    refine st3 _ ?_
    show SS p e below T3 m 4 #[rv a1, rv a2, iv (0 : Int32), iv (3 : Int32), .val .null, .unset] [] _
    refine XS.iloadN X3.here hx rfl (hb hby d3_4) rfl ?_
    show SS p e below T3 m 5 #[rv a1, rv a2, iv (0 : Int32), iv (3 : Int32), .val .null, .unset] [(.int (3 : Int32))] _
    refine XS.ifYes X3.here hx rfl (pc0 := 5) (pc' := 27) rfl (hb hby d3_5) rfl ((if0 _ _).trans (feq (by decide : ¬ ((3 : Int32) = (0 : Int32)))).2) (by decide) (by decide) ?_
    show SS p e below T3 m 27 #[rv a1, rv a2, iv (0 : Int32), iv (3 : Int32), .val .null, .unset] [] _
    refine st5 _ ?_
    show SS p e below T5 m 30 #[rv a1, rv a2, iv (0 : Int32), iv (3 : Int32), .val .null, .unset] [(.int p4)] _
    refine XS.ifNo X5.here hx rfl (hb hby d3_30) rfl ((if0 _ _).trans (feq pr2).1) ?_
    show SS p e below T5 m 33 #[rv a1, rv a2, iv (0 : Int32), iv (3 : Int32), .val .null, .unset] [] _
    refine XS.aloadN X5.here hx rfl (hb hby d3_33) rfl rfl ?_
    refine XS.iloadN X5.here hx rfl (hb hby d3_34) rfl ?_
    refine XS.iloadN X5.here hx rfl (hb hby d3_35) rfl ?_
    show SS p e below T5 m 36 #[rv a1, rv a2, iv (0 : Int32), iv (3 : Int32), .val .null, .unset] [(.int (3 : Int32)), (.int (0 : Int32)), (.ref a2)] _
    refine st10 _ ?_
    show SS p e below T10 m 39 #[rv a1, rv a2, iv (0 : Int32), iv (3 : Int32), .val .null, .unset] [(.ref b10_0)] _
    refine XS.astore X10.here hx rfl (hb hby d3_39) rfl rfl (l' := #[rv a1, rv a2, iv (0 : Int32), iv (3 : Int32), .val .null, rv b10_0]) rfl ?_
    refine XS.aloadN X10.here hx rfl (hb hby d3_41) rfl rfl ?_
    refine XS.aload X10.here hx rfl (hb hby d3_42) rfl rfl ?_
    refine XS.iloadN X10.here hx rfl (hb hby d3_44) rfl ?_
    show SS p e below T10 m 45 #[rv a1, rv a2, iv (0 : Int32), iv (3 : Int32), .val .null, rv b10_0] [(.int (3 : Int32)), (.ref b10_0), (.ref a1)] _
    refine st11 _ ?_
    show SS p e below T11 m 48 #[rv a1, rv a2, iv (0 : Int32), iv (3 : Int32), .val .null, rv b10_0] [(.int (1 : Int32)), (.ref a1)] _
    refine st14 _ ?_
    show SS p e below T14 m 51 #[rv a1, rv a2, iv (0 : Int32), iv (3 : Int32), .val .null, rv b10_0] [] _
    refine XS.aloadN X14.here hx rfl (hb hby d3_51) rfl rfl ?_
    refine XS.aload X14.here hx rfl (hb hby d3_52) rfl rfl ?_
    show SS p e below T14 m 54 #[rv a1, rv a2, iv (0 : Int32), iv (3 : Int32), .val .null, rv b10_0] [(.ref b10_0), (.ref a1)] _
    refine st17 _ ?_
    show SS p e below T17 m 57 #[rv a1, rv a2, iv (0 : Int32), iv (3 : Int32), .val .null, rv b10_0] [] _
    exact X17.returnOut hx Bd.returns (hb hby d3_57) hr
  · show Q_rm3_4 Z a1 a2 p4 p6 p7 p8 k9 h0 n0 _ T17.heap _
    rw [e17]
    exact ⟨b10_0, kx10_0, rfl, N17, KK17, sz_b10_0, fc18, Fw17, fc19⟩
def Q_rm2_4 (Z : State) (a1 : Addr) (a2 : Addr) (p3 : Int32) (p4 : Int32) (p5 : Int32) (k6 : ClassId) (p8 : Int32) (h0 : Heap) (n0 : Nat) (v : Option Value) (h : Heap) (L : List Loc) : Prop := ∃ b9_0 : Addr, ∃ kx9_0 : ClassId, v = none ∧ Fr n0 L ∧ Keep h0 h [a1] ∧ h0.size ≤ b9_0 ∧ Fld Z h a1 "java/lang/String" "coder" "B" (.int (1 : Int32)) ∧ Fld Z h a1 "java/lang/String" "value" "[B" (.ref b9_0) ∧ Arv Z h b9_0 kx9_0 .byte (6 : Int32) [(.int (((p3 >>> ((0 : Int32) &&& 31)).toInt8.toInt32).toInt8.toInt32)), (.int (((p3 >>> ((8 : Int32) &&& 31)).toInt8.toInt32).toInt8.toInt32)), (.int (((p4 >>> ((0 : Int32) &&& 31)).toInt8.toInt32).toInt8.toInt32)), (.int (((p4 >>> ((8 : Int32) &&& 31)).toInt8.toInt32).toInt8.toInt32)), (.int (((p5 >>> ((0 : Int32) &&& 31)).toInt8.toInt32).toInt8.toInt32)), (.int (((p5 >>> ((8 : Int32) &&& 31)).toInt8.toInt32).toInt8.toInt32))] (.int (0 : Int32))
set_option maxRecDepth 65536 in
set_option maxHeartbeats 40000000 in
theorem rm2_4 (l : Launch) (Z : State) (a0 : Array Value) (hw : ∀ d ∈ tables_1, d.before a0 Z = true) (ws : List Jvm.Cond) (a1 : Addr) (a2 : Addr) (p3 : Int32) (p4 : Int32) (p5 : Int32) (k6 : ClassId) (p8 : Int32) (h0 : Heap) (n0 : Nat) (OL0 : Old Z n0 h0) (pr1 : Arv Z h0 a2 k6 .char (3 : Int32) [(.int p3), (.int p4), (.int p5)] (.int (0 : Int32))) (pr2 : Sta Z Z.heap "java/lang/String" "COMPACT_STRINGS" "Z" (.int p8)) (pr3 : ¬ (p8 = (0 : Int32))) (pr4 : (255 : Int32) < p3) (pr5 : Sta Z Z.heap "java/lang/StringUTF16" "$assertionsDisabled" "Z" (.int (1 : Int32))) (pr6 : Sta Z Z.heap "java/lang/StringUTF16" "HI_BYTE_SHIFT" "I" (.int (0 : Int32))) (pr7 : Sta Z Z.heap "java/lang/StringUTF16" "LO_BYTE_SHIFT" "I" (.int (8 : Int32))) (pr8 : (255 : Int32) < (nar .char (((((((p3 >>> ((0 : Int32) &&& 31)).toInt8.toInt32).toInt8.toInt32) &&& (255 : Int32)) <<< ((0 : Int32) &&& 31)) ||| (((((p3 >>> ((8 : Int32) &&& 31)).toInt8.toInt32).toInt8.toInt32) &&& (255 : Int32)) <<< ((8 : Int32) &&& 31))).toUInt32.toUInt16.toUInt32.toInt32))) (pr9 : Exa Z h0 a1 "java/lang/String") (pr10 : Fld Z h0 a1 "java/lang/String" "coder" "B" (.int (0 : Int32))) (pr11 : n0 ≤ a1) (pr12 : Fld Z h0 a1 "java/lang/String" "value" "[B" .null) :
    MetFree l mn2 (head1 (Jvm.Cond.code mn2 jdk_42_method_3_code 2 none :: ws) ({ frames := 5, cells := 2, slots := 9, locals := 74 } : Room)) (fun a U => a = #[(.ref a1), (.ref a2)] ∧ Z.Warmed39 U.vm ∧ U.heap = h0) (fun _ _ _ _ _ => True) (fun _ U o U' => ∃ v L, o = .returned v ∧ Q_rm2_4 Z a1 a2 p3 p4 p5 k6 p8 h0 n0 v U'.heap L ∧ FrameEnd U o U' L ({ frames := 5, cells := 2, slots := 9, locals := 74 } : Room).cells ({ frames := 5, cells := 2, slots := 9, locals := 74 } : Room).slots) := by
  refine MetFree.of_bodySF (plainFor_of_name pn_0) hisR ?_
  intro p e s m args below meth c s₁ Bd hml0 hP hK
  obtain ⟨rfl, hZ, hh⟩ := hP
  have hx := Bd.exec
  have hby := Bd.bytes
  have hml : c.maxLocals = 2 := hml0
  have hown : s.vm.findClass "java/lang/String" = some m.cls := findClass_of_methodNamed Bd.named
  have hnm := (name_of_methodNamed Bd.named Bd.method).1
  have X0 : Stand p l e ({ frames := 5, cells := 2, slots := 9, locals := 74 } : Room) s m #[(.ref a1), (.ref a2)] below meth c s₁ [] 0 0 := Stand.of_body Bd
  have e0 : s₁.heap = h0 := by rw [← hh, Bd.state]; rfl
  have N0 := Fr.nil n0
  have pre0 : ∀ t, SS p e below s₁ m 0 #[rv a1, rv a2] [] t → Steps p.tables e below (s₁.setTop (entryFrame m #[(.ref a1), (.ref a2)] 2)) t := fun t k => castTop (ef_2_1 m a1 a2) k
  obtain ⟨cl7, Ar7, -, Sz7, Nn7, -, -⟩ := id pr1
  obtain ⟨_, _, ⟨T9, L9, k9, n9⟩, -, X9, ⟨Lc9, hQ9, l9, y9, z9⟩, st9⟩ := X0.specialBack hx (y := mn3) rfl hown (mvT hZ (wd12 hw)) (mvT hZ (wd13 hw)) (mvT hZ (wd15 hw)) (by decide) (backOf (W := 0) (rm3_4 l Z a0 hw [] a1 a2 p8 p3 p4 p5 k6 h0 n0 OL0 pr2 pr3 pr1 pr4 pr5 pr6 pr7 pr8 pr9 pr10 pr11 pr12) hZ (wd15 hw) (wd7 hw) (by decide) (by decide)) (g := (mkF m 6 #[rv a1, rv a2] [.null, (.int (3 : Int32)), (.int (0 : Int32)), (.ref a2), (.ref a1)])) rfl (by rw [hml]; rfl) (Steps.refl _) (a := a1) (argsL := [(.ref a2), (.int (0 : Int32)), (.int (3 : Int32)), .null]) (rest := []) (lenOf pd_0 rfl) rfl (by show 2 * 0 + _ ≤ _; exact Nat.le_of_eq rfl) (hb hby d2_6) (fun _ _ => ⟨rfl, e0, (by decide : 0 + 2 ≤ _), (by decide : 0 + 9 ≤ _)⟩)
  dsimp only [Pt.U, Pt.locs, Pt.cells, Pt.slots] at X9 l9 y9 z9 st9 hQ9
  subst l9 y9 z9
  obtain ⟨b9_0, kx9_0, rfl, Nq9, K9, u9_0, u9_1, u9_2, u9_3⟩ := hQ9
  have KK9 : Keep h0 T9.heap [a1] := (Keep.refl h0 [a1]).trans K9 (allS (Or.inl (List.mem_of_getElem? (i := 0) rfl)) all0)
  have OL9 := OL0.keep K9 (allS pr11 all0)
  have g_b9_0 : n0 ≤ b9_0 := Nat.le_trans (Nat.le_trans (Nat.le_of_eq OL0.1.symm) OL0.2.1) u9_0
  have sz_b9_0 : h0.size ≤ b9_0 := Nat.le_trans (Keep.refl h0 [a1]).1 u9_0
  have N9 := Fr.app N0 Nq9
  obtain ⟨fs, hr, hrun, hended, hW, hsame⟩ := X9.leave (v := none) (fun _ => rfl)
  refine ⟨_, _, pre0 _ ?_, hrun, hended, _, _, rfl, ?_, ⟨_, rfl⟩, hW, hsame.mono (by decide) (by decide)⟩
  · show SS p e below s₁ m 0 #[rv a1, rv a2] [] _
    refine XS.aloadN X0.here hx rfl (hb hby d2_0) rfl rfl ?_
    refine XS.aloadN X0.here hx rfl (hb hby d2_1) rfl rfl ?_
    refine XS.iconst X0.here hx rfl (hb hby d2_2) ?_
    refine XS.aloadN X0.here hx rfl (hb hby d2_3) rfl rfl ?_
    show SS p e below s₁ m 4 #[rv a1, rv a2] [(.ref a2), (.int (0 : Int32)), (.ref a2), (.ref a1)] _
    refine X0.arraylength hx (by rw [e0]; exact Ar7.1) (State.isArrayOf_alike hZ.alike Ar7.2.1) (g := (mkF m 4 #[rv a1, rv a2] [(.ref a2), (.int (0 : Int32)), (.ref a2), (.ref a1)])) rfl rfl (hb hby d2_4) _ ?_
    rw [len_of Sz7 Nn7]
    show SS p e below s₁ m 5 #[rv a1, rv a2] [(.int (3 : Int32)), (.int (0 : Int32)), (.ref a2), (.ref a1)] _
    refine XS.aconstNull X0.here hx rfl (hb hby d2_5) ?_
    show SS p e below s₁ m 6 #[rv a1, rv a2] [.null, (.int (3 : Int32)), (.int (0 : Int32)), (.ref a2), (.ref a1)] _
    refine st9.trans ?_
    show SS p e below T9 m 9 #[rv a1, rv a2] [] _
    exact X9.returnOut hx Bd.returns (hb hby d2_9) hr
  · show Q_rm2_4 Z a1 a2 p3 p4 p5 k6 p8 h0 n0 _ T9.heap _
    exact ⟨b9_0, kx9_0, rfl, N9, KK9, sz_b9_0, u9_1, u9_2, u9_3⟩
theorem d1_71 : decode method_2_code 71 = .ok (.areturn, 1) := by decide +kernel
theorem ef_1_36 (m : MethodId) (x1 : Int32) (x2 : Int32) (x3 : Int32) : entryFrame m #[(.int (3 : Int32)), (.int x1), (.int x2), (.int x3)] 4 = mkF m 0 #[.val (.int (3 : Int32)), .val (.int x1), .val (.int x2), .val (.int x3)] [] := by first | (simp [entryFrame, mkF, argsToLocals, Value.category]; done) | rfl
def Q_rm1_6 (Z : State) (p1 : Int32) (p2 : Int32) (p3 : Int32) (p12 : Int32) (h0 : Heap) (n0 : Nat) (v : Option Value) (h : Heap) (L : List Loc) : Prop := ∃ b4 : Addr, ∃ b13_0 : Addr, ∃ kx13_0 : ClassId, v = some (.ref b4) ∧ Fr n0 L ∧ Keep h0 h [] ∧ h0.size ≤ b4 ∧ h0.size ≤ b13_0 ∧ b4 ≠ b13_0 ∧ Exa Z h b4 "java/lang/String" ∧ Fld Z h b4 "java/lang/String" "coder" "B" (.int (1 : Int32)) ∧ Fld Z h b4 "java/lang/String" "value" "[B" (.ref b13_0) ∧ Arv Z h b13_0 kx13_0 .byte (6 : Int32) [(.int ((((nar .char p1) >>> ((0 : Int32) &&& 31)).toInt8.toInt32).toInt8.toInt32)), (.int ((((nar .char p1) >>> ((8 : Int32) &&& 31)).toInt8.toInt32).toInt8.toInt32)), (.int ((((nar .char p2) >>> ((0 : Int32) &&& 31)).toInt8.toInt32).toInt8.toInt32)), (.int ((((nar .char p2) >>> ((8 : Int32) &&& 31)).toInt8.toInt32).toInt8.toInt32)), (.int ((((nar .char p3) >>> ((0 : Int32) &&& 31)).toInt8.toInt32).toInt8.toInt32)), (.int ((((nar .char p3) >>> ((8 : Int32) &&& 31)).toInt8.toInt32).toInt8.toInt32))] (.int (0 : Int32))
set_option maxRecDepth 65536 in
set_option maxHeartbeats 40000000 in
theorem rm1_6 (l : Launch) (Z : State) (a0 : Array Value) (hw : ∀ d ∈ tables_1, d.before a0 Z = true) (ws : List Jvm.Cond) (p1 : Int32) (p2 : Int32) (p3 : Int32) (p12 : Int32) (h0 : Heap) (n0 : Nat) (OL0 : Old Z n0 h0) (pr1 : Sta Z Z.heap "java/lang/String" "COMPACT_STRINGS" "Z" (.int p12)) (pr2 : ¬ (p12 = (0 : Int32))) (pr3 : (255 : Int32) < (nar .char p1)) (pr4 : Sta Z Z.heap "java/lang/StringUTF16" "$assertionsDisabled" "Z" (.int (1 : Int32))) (pr5 : Sta Z Z.heap "java/lang/StringUTF16" "HI_BYTE_SHIFT" "I" (.int (0 : Int32))) (pr6 : Sta Z Z.heap "java/lang/StringUTF16" "LO_BYTE_SHIFT" "I" (.int (8 : Int32))) (pr7 : (255 : Int32) < (nar .char ((((((((nar .char p1) >>> ((0 : Int32) &&& 31)).toInt8.toInt32).toInt8.toInt32) &&& (255 : Int32)) <<< ((0 : Int32) &&& 31)) ||| ((((((nar .char p1) >>> ((8 : Int32) &&& 31)).toInt8.toInt32).toInt8.toInt32) &&& (255 : Int32)) <<< ((8 : Int32) &&& 31))).toUInt32.toUInt16.toUInt32.toInt32))) :
    MetFree l mn1 (head1 (Jvm.Cond.code mn1 method_2_code 4 (some (.object "java/lang/String")) :: ws) ({ frames := 6, cells := 4, slots := 16, locals := 88 } : Room)) (fun a U => a = #[(.int (3 : Int32)), (.int p1), (.int p2), (.int p3)] ∧ Z.Warmed39 U.vm ∧ U.heap = h0) (fun _ _ _ _ _ => True) (fun _ U o U' => ∃ v L, o = .returned v ∧ Q_rm1_6 Z p1 p2 p3 p12 h0 n0 v U'.heap L ∧ FrameEnd U o U' L ({ frames := 6, cells := 4, slots := 16, locals := 88 } : Room).cells ({ frames := 6, cells := 4, slots := 16, locals := 88 } : Room).slots) := by
  refine MetFree.of_bodySF (plainFor_of_name pn_1) hisR ?_
  intro p e s m args below meth c s₁ Bd hml0 hP hK
  obtain ⟨rfl, hZ, hh⟩ := hP
  have hx := Bd.exec
  have hby := Bd.bytes
  have hml : c.maxLocals = 4 := hml0
  have hown : s.vm.findClass "com/example/aeroslice/aeroslice/SrsDefaultsOfPinLaw" = some m.cls := findClass_of_methodNamed Bd.named
  have hnm := (name_of_methodNamed Bd.named Bd.method).1
  have X0 : Stand p l e ({ frames := 6, cells := 4, slots := 16, locals := 88 } : Room) s m #[(.int (3 : Int32)), (.int p1), (.int p2), (.int p3)] below meth c s₁ [] 0 0 := Stand.of_body Bd
  have e0 : s₁.heap = h0 := by rw [← hh, Bd.state]; rfl
  have N0 := Fr.nil n0
  have pre0 : ∀ t, SS p e below s₁ m 0 #[iv (3 : Int32), iv p1, iv p2, iv p3] [] t → Steps p.tables e below (s₁.setTop (entryFrame m #[(.int (3 : Int32)), (.int p1), (.int p2), (.int p3)] 4)) t := fun t k => castTop (ef_1_36 m p1 p2 p3) k
  obtain ⟨T4, h4, X4, e4, E4, A4, D4, -, st4⟩ := newO X0 hx hZ hown (wd5 hw) (wd6 hw) (wd7 hw) e0 (g := (mkF m 49 #[iv (3 : Int32), iv p1, iv p2, iv p3] [])) rfl (hb hby d1_49) (by decide) (by decide)
  obtain ⟨b4, g4⟩ : ∃ z, z = h0.size := ⟨_, rfl⟩
  rw [← g4] at A4 D4 st4
  have g_b4 : n0 ≤ b4 := (Nat.le_trans (Nat.le_trans (Nat.le_of_eq OL0.1.symm) OL0.2.1) (Nat.le_of_eq g4.symm))
  have sz_b4 : h0.size ≤ b4 := (Nat.le_trans (Keep.refl h0 []).1 (Nat.le_of_eq g4.symm))
  have KK4 : Keep h0 h4 [] := (Keep.refl h0 []).ext E4
  have OL4 := OL0.ext E4
  have F_coder_b4 : Fld Z h4 b4 "java/lang/String" "coder" "B" (.int (0 : Int32)) := D4 (Or.inr (wd32 hw)) (ty := .byte) (by decide)
  have F_value_b4 : Fld Z h4 b4 "java/lang/String" "value" "[B" .null := D4 (Or.inr (wd34 hw)) (ty := (.array .byte)) (by decide)
  obtain ⟨T5, h5, k5, X5, e5, E5, A5, st5⟩ := newP (aty := .char) X4 hx hZ (wd8 hw) e4 (g := (mkF m 54 #[iv (3 : Int32), iv p1, iv p2, iv p3] [(.int (3 : Int32)), (.ref b4), (.ref b4)])) rfl (hb hby d1_54) rfl (by decide) (cap := 3) (by decide) (by decide) (by decide) (by decide)
  obtain ⟨b5, g5⟩ : ∃ z, z = h4.size := ⟨_, rfl⟩
  rw [← g5] at A5 st5
  have V5 : Arv Z h5 b5 k5 .char (3 : Int32) [(.int (0 : Int32)), (.int (0 : Int32)), (.int (0 : Int32))] (.int (0 : Int32)) := (Arv.new A5 (by decide)).pad (pad_rep [] (.int (0 : Int32)) 3)
  have g_b5 : n0 ≤ b5 := (Nat.le_trans (Nat.le_trans (Nat.le_of_eq OL4.1.symm) OL4.2.1) (Nat.le_of_eq g5.symm))
  have sz_b5 : h0.size ≤ b5 := (Nat.le_trans KK4.1 (Nat.le_of_eq g5.symm))
  have KK5 : Keep h0 h5 [] := KK4.ext E5
  have OL5 := OL4.ext E5
  obtain ⟨cl6, Ar6, q6, S6, M6, Hs6, G6⟩ := id V5
  have hin6 : ¬ ((0 : Int32) < 0 ∨ cl6.slots.size ≤ ((0 : Int32)).toNatClampNeg) := inb_of S6 ⟨by decide, by decide⟩
  obtain ⟨T7, h7, X7, e7, W7, st7⟩ := stC X5 hx hZ e5 Ar6 (j := (0 : Int32)) hin6 (g := (mkF m 59 #[iv (3 : Int32), iv p1, iv p2, iv p3] [(.int p1), (.int (0 : Int32)), (.ref b5), (.ref b5), (.ref b4), (.ref b4)])) rfl rfl (hb hby d1_59)
  have V7 : Arv Z h7 b5 k5 .char (3 : Int32) [(.int (nar .char p1)), (.int (0 : Int32)), (.int (0 : Int32))] (.int (0 : Int32)) := Arv.set Ar6 q6 S6 M6 Hs6 G6 (fits_nar_char _) W7 0 rfl (Nat.le_of_ble_eq_true rfl)
  have KK7 : Keep h0 h7 [] := KK5.wr W7 (Or.inr sz_b5)
  have OL7 := OL5.wr W7 g_b5
  have N7 := Fr.snoc X7 N0 g_b5
  obtain ⟨cl8, Ar8, q8, S8, M8, Hs8, G8⟩ := id V7
  have hin8 : ¬ ((1 : Int32) < 0 ∨ cl8.slots.size ≤ ((1 : Int32)).toNatClampNeg) := inb_of S8 ⟨by decide, by decide⟩
  obtain ⟨T9, h9, X9, e9, W9, st9⟩ := stC X7 hx hZ e7 Ar8 (j := (1 : Int32)) hin8 (g := (mkF m 63 #[iv (3 : Int32), iv p1, iv p2, iv p3] [(.int p2), (.int (1 : Int32)), (.ref b5), (.ref b5), (.ref b4), (.ref b4)])) rfl rfl (hb hby d1_63)
  have V9 : Arv Z h9 b5 k5 .char (3 : Int32) [(.int (nar .char p1)), (.int (nar .char p2)), (.int (0 : Int32))] (.int (0 : Int32)) := Arv.set Ar8 q8 S8 M8 Hs8 G8 (fits_nar_char _) W9 1 rfl (Nat.le_of_ble_eq_true rfl)
  have KK9 : Keep h0 h9 [] := KK7.wr W9 (Or.inr sz_b5)
  have OL9 := OL7.wr W9 g_b5
  have N9 := Fr.snoc X9 N7 g_b5
  obtain ⟨cl10, Ar10, q10, S10, M10, Hs10, G10⟩ := id V9
  have hin10 : ¬ ((2 : Int32) < 0 ∨ cl10.slots.size ≤ ((2 : Int32)).toNatClampNeg) := inb_of S10 ⟨by decide, by decide⟩
  obtain ⟨T11, h11, X11, e11, W11, st11⟩ := stC X9 hx hZ e9 Ar10 (j := (2 : Int32)) hin10 (g := (mkF m 67 #[iv (3 : Int32), iv p1, iv p2, iv p3] [(.int p3), (.int (2 : Int32)), (.ref b5), (.ref b5), (.ref b4), (.ref b4)])) rfl rfl (hb hby d1_67)
  have V11 : Arv Z h11 b5 k5 .char (3 : Int32) [(.int (nar .char p1)), (.int (nar .char p2)), (.int (nar .char p3))] (.int (0 : Int32)) := Arv.set Ar10 q10 S10 M10 Hs10 G10 (fits_nar_char _) W11 2 rfl (Nat.le_of_ble_eq_true rfl)
  have KK11 : Keep h0 h11 [] := KK9.wr W11 (Or.inr sz_b5)
  have OL11 := OL9.wr W11 g_b5
  have N11 := Fr.snoc X11 N9 g_b5
  have fc14 := ((((A4.ext E5).wr W7).wr W9).wr W11)
  have fc15 := ((((F_coder_b4.ext E5).other W7 (Or.inl (Nat.ne_of_lt (Nat.lt_of_lt_of_le F_value_b4.lt (Nat.le_of_eq g5.symm))))).other W9 (Or.inl (Nat.ne_of_lt (Nat.lt_of_lt_of_le F_value_b4.lt (Nat.le_of_eq g5.symm))))).other W11 (Or.inl (Nat.ne_of_lt (Nat.lt_of_lt_of_le F_value_b4.lt (Nat.le_of_eq g5.symm)))))
  have fc16 := ((((F_value_b4.ext E5).other W7 (Or.inl (Nat.ne_of_lt (Nat.lt_of_lt_of_le F_value_b4.lt (Nat.le_of_eq g5.symm))))).other W9 (Or.inl (Nat.ne_of_lt (Nat.lt_of_lt_of_le F_value_b4.lt (Nat.le_of_eq g5.symm))))).other W11 (Or.inl (Nat.ne_of_lt (Nat.lt_of_lt_of_le F_value_b4.lt (Nat.le_of_eq g5.symm)))))
  obtain ⟨_, _, ⟨T13, L13, k13, n13⟩, -, X13, ⟨Lc13, hQ13, l13, y13, z13⟩, st13⟩ := X11.specialBack hx (y := mn2) rfl hown (mvT hZ (wd9 hw)) (mvT hZ (wd10 hw)) (mvT hZ (wd11 hw)) (by decide) (backOf (W := 1) (rm2_4 l Z a0 hw [] b4 b5 (nar .char p1) (nar .char p2) (nar .char p3) k5 p12 h11 n0 OL11 V11 pr1 pr2 pr3 pr4 pr5 pr6 pr7 fc14 fc15 g_b4 fc16) hZ (wd11 hw) (wd7 hw) (by decide) (by decide)) (g := (mkF m 68 #[iv (3 : Int32), iv p1, iv p2, iv p3] [(.ref b5), (.ref b4), (.ref b4)])) rfl (by rw [hml]; rfl) (Steps.refl _) (a := b4) (argsL := [(.ref b5)]) (rest := [(.ref b4)]) (lenOf pd_1 rfl) rfl (by show 2 * 0 + _ ≤ _; exact Nat.le_of_eq rfl) (hb hby d1_68) (fun _ _ => ⟨rfl, e11, (by decide : 2 + 2 ≤ _), (by decide : 7 + 9 ≤ _)⟩)
  dsimp only [Pt.U, Pt.locs, Pt.cells, Pt.slots] at X13 l13 y13 z13 st13 hQ13
  subst l13 y13 z13
  obtain ⟨b13_0, kx13_0, rfl, Nq13, K13, u13_0, u13_1, u13_2, u13_3⟩ := hQ13
  have KK13 : Keep h0 T13.heap [] := KK11.trans K13 (allS (Or.inr sz_b4) all0)
  have OL13 := OL11.keep K13 (allS g_b4 all0)
  have g_b13_0 : n0 ≤ b13_0 := Nat.le_trans (Nat.le_trans (Nat.le_of_eq OL11.1.symm) OL11.2.1) u13_0
  have sz_b13_0 : h0.size ≤ b13_0 := Nat.le_trans KK11.1 u13_0
  have N13 := Fr.app N11 Nq13
  have fc17 := (fc14.keep K13)
  obtain ⟨fs, hr, hrun, hended, hW, hsame⟩ := X13.leave (v := some (.ref b4)) (fun h => by rw [Bd.returns] at h; cases h)
  refine ⟨_, _, pre0 _ ?_, hrun, hended, _, _, rfl, ?_, ⟨_, rfl⟩, hW, hsame.mono (by decide) (by decide)⟩
  · show SS p e below s₁ m 0 #[iv (3 : Int32), iv p1, iv p2, iv p3] [] _
    refine XS.iloadN X0.here hx rfl (hb hby d1_0) rfl ?_
    show SS p e below s₁ m 1 #[iv (3 : Int32), iv p1, iv p2, iv p3] [(.int (3 : Int32))] _
    refine XS.ifYes X0.here hx rfl (pc0 := 1) (pc' := 15) rfl (hb hby d1_1) rfl ((if0 _ _).trans (feq (by decide : ¬ ((3 : Int32) = (0 : Int32)))).2) (by decide) (by decide) ?_
    show SS p e below s₁ m 15 #[iv (3 : Int32), iv p1, iv p2, iv p3] [] _
    refine XS.iloadN X0.here hx rfl (hb hby d1_15) rfl ?_
    refine XS.iconst X0.here hx rfl (hb hby d1_16) ?_
    show SS p e below s₁ m 17 #[iv (3 : Int32), iv p1, iv p2, iv p3] [(.int (1 : Int32)), (.int (3 : Int32))] _
    refine XS.icmpYes X0.here hx rfl (pc0 := 17) (pc' := 25) rfl (hb hby d1_17) rfl (feq (by decide : ¬ ((3 : Int32) = (1 : Int32)))).2 (by decide) (by decide) ?_
    show SS p e below s₁ m 25 #[iv (3 : Int32), iv p1, iv p2, iv p3] [] _
    refine XS.iloadN X0.here hx rfl (hb hby d1_25) rfl ?_
    refine XS.iconst X0.here hx rfl (hb hby d1_26) ?_
    show SS p e below s₁ m 27 #[iv (3 : Int32), iv p1, iv p2, iv p3] [(.int (2 : Int32)), (.int (3 : Int32))] _
    refine XS.icmpYes X0.here hx rfl (pc0 := 27) (pc' := 49) rfl (hb hby d1_27) rfl (feq (by decide : ¬ ((3 : Int32) = (2 : Int32)))).2 (by decide) (by decide) ?_
    show SS p e below s₁ m 49 #[iv (3 : Int32), iv p1, iv p2, iv p3] [] _
    refine st4 _ ?_
    show SS p e below T4 m 52 #[iv (3 : Int32), iv p1, iv p2, iv p3] [(.ref b4)] _
    refine XS.dup X4.here hx rfl (hb hby d1_52) rfl rfl ?_
    refine XS.iconst X4.here hx rfl (hb hby d1_53) ?_
    show SS p e below T4 m 54 #[iv (3 : Int32), iv p1, iv p2, iv p3] [(.int (3 : Int32)), (.ref b4), (.ref b4)] _
    refine st5 _ ?_
    show SS p e below T5 m 56 #[iv (3 : Int32), iv p1, iv p2, iv p3] [(.ref b5), (.ref b4), (.ref b4)] _
    refine XS.dup X5.here hx rfl (hb hby d1_56) rfl rfl ?_
    refine XS.iconst X5.here hx rfl (hb hby d1_57) ?_
    refine XS.iloadN X5.here hx rfl (hb hby d1_58) rfl ?_
    show SS p e below T5 m 59 #[iv (3 : Int32), iv p1, iv p2, iv p3] [(.int p1), (.int (0 : Int32)), (.ref b5), (.ref b5), (.ref b4), (.ref b4)] _
    refine st7 _ ?_
    show SS p e below T7 m 60 #[iv (3 : Int32), iv p1, iv p2, iv p3] [(.ref b5), (.ref b4), (.ref b4)] _
    refine XS.dup X7.here hx rfl (hb hby d1_60) rfl rfl ?_
    refine XS.iconst X7.here hx rfl (hb hby d1_61) ?_
    refine XS.iloadN X7.here hx rfl (hb hby d1_62) rfl ?_
    show SS p e below T7 m 63 #[iv (3 : Int32), iv p1, iv p2, iv p3] [(.int p2), (.int (1 : Int32)), (.ref b5), (.ref b5), (.ref b4), (.ref b4)] _
    refine st9 _ ?_
    show SS p e below T9 m 64 #[iv (3 : Int32), iv p1, iv p2, iv p3] [(.ref b5), (.ref b4), (.ref b4)] _
    refine XS.dup X9.here hx rfl (hb hby d1_64) rfl rfl ?_
    refine XS.iconst X9.here hx rfl (hb hby d1_65) ?_
    refine XS.iloadN X9.here hx rfl (hb hby d1_66) rfl ?_
    show SS p e below T9 m 67 #[iv (3 : Int32), iv p1, iv p2, iv p3] [(.int p3), (.int (2 : Int32)), (.ref b5), (.ref b5), (.ref b4), (.ref b4)] _
    refine st11 _ ?_
    show SS p e below T11 m 68 #[iv (3 : Int32), iv p1, iv p2, iv p3] [(.ref b5), (.ref b4), (.ref b4)] _
    refine st13.trans ?_
    show SS p e below T13 m 71 #[iv (3 : Int32), iv p1, iv p2, iv p3] [(.ref b4)] _
    jvm_step X13.here [X13.here.top, hx, (hb hby d1_71), X13.method', Bd.returns, Value.isRef, FieldType.isReference]
    first | (intro acts; rw [hr _ acts rfl rfl rfl]) | rw [hr _ _ rfl rfl rfl]
    exact Steps.refl _
  · show Q_rm1_6 Z p1 p2 p3 p12 h0 n0 _ T13.heap _
    exact ⟨b4, b13_0, kx13_0, rfl, N13, KK13, sz_b4, sz_b13_0, (Nat.ne_of_lt (Nat.lt_of_lt_of_le (Nat.lt_of_lt_of_le (Nat.lt_of_lt_of_le (Nat.lt_of_lt_of_le (Nat.lt_of_lt_of_le F_value_b4.lt E5.1) (Nat.le_of_eq W7.size.symm)) (Nat.le_of_eq W9.size.symm)) (Nat.le_of_eq W11.size.symm)) u13_0)), fc17, u13_1, u13_2, u13_3⟩
def Q_rm6_4 (Z : State) (a1 : Addr) (a2 : Addr) (p3 : Int32) (p4 : Int32) (p5 : Int32) (k6 : ClassId) (k8 : ClassId) (h0 : Heap) (n0 : Nat) (v : Option Value) (h : Heap) (L : List Loc) : Prop := v = some (.int (1 : Int32)) ∧ Fr n0 L ∧ Keep h0 h [a2] ∧ Arv Z h a2 k8 .byte (3 : Int32) [(.int ((p3.toInt8.toInt32).toInt8.toInt32)), (.int (0 : Int32)), (.int (0 : Int32))] (.int (0 : Int32))
set_option maxRecDepth 65536 in
set_option maxHeartbeats 40000000 in
theorem rm6_4 (l : Launch) (Z : State) (a0 : Array Value) (hw : ∀ d ∈ tables_1, d.before a0 Z = true) (ws : List Jvm.Cond) (a1 : Addr) (a2 : Addr) (p3 : Int32) (p4 : Int32) (p5 : Int32) (k6 : ClassId) (k8 : ClassId) (h0 : Heap) (n0 : Nat) (OL0 : Old Z n0 h0) (pr1 : Arv Z h0 a1 k6 .char (3 : Int32) [(.int p3), (.int p4), (.int p5)] (.int (0 : Int32))) (pr2 : ¬ ((255 : Int32) < p3)) (pr3 : Arv Z h0 a2 k8 .byte (3 : Int32) [(.int (0 : Int32)), (.int (0 : Int32)), (.int (0 : Int32))] (.int (0 : Int32))) (pr4 : n0 ≤ a2) (pr5 : a1 ≠ a2) (pr6 : (255 : Int32) < p4) :
    MetFree l mn6 (head1 (Jvm.Cond.code mn6 jdk_52_method_21_code 7 (some .int) :: ws) ({ frames := 0, cells := 0, slots := 0, locals := 0 } : Room)) (fun a U => a = #[(.ref a1), (.int (0 : Int32)), (.ref a2), (.int (0 : Int32)), (.int (3 : Int32))] ∧ Z.Warmed39 U.vm ∧ U.heap = h0) (fun _ _ _ _ _ => True) (fun _ U o U' => ∃ v L, o = .returned v ∧ Q_rm6_4 Z a1 a2 p3 p4 p5 k6 k8 h0 n0 v U'.heap L ∧ FrameEnd U o U' L ({ frames := 0, cells := 0, slots := 0, locals := 0 } : Room).cells ({ frames := 0, cells := 0, slots := 0, locals := 0 } : Room).slots) := by
  refine MetFree.of_bodySF (plainFor_of_name pn_6) hisR ?_
  intro p e s m args below meth c s₁ Bd hml0 hP hK
  obtain ⟨rfl, hZ, hh⟩ := hP
  have hx := Bd.exec
  have hby := Bd.bytes
  have hml : c.maxLocals = 7 := hml0
  have hown : s.vm.findClass "java/lang/StringUTF16" = some m.cls := findClass_of_methodNamed Bd.named
  have hnm := (name_of_methodNamed Bd.named Bd.method).1
  have X0 : Stand p l e ({ frames := 0, cells := 0, slots := 0, locals := 0 } : Room) s m #[(.ref a1), (.int (0 : Int32)), (.ref a2), (.int (0 : Int32)), (.int (3 : Int32))] below meth c s₁ [] 0 0 := Stand.of_body Bd
  have e0 : s₁.heap = h0 := by rw [← hh, Bd.state]; rfl
  have N0 := Fr.nil n0
  have pre0 : ∀ t, SS p e below s₁ m 0 #[rv a1, iv (0 : Int32), rv a2, iv (0 : Int32), iv (3 : Int32), .unset, .unset] [] t → Steps p.tables e below (s₁.setTop (entryFrame m #[(.ref a1), (.int (0 : Int32)), (.ref a2), (.int (0 : Int32)), (.int (3 : Int32))] 7)) t := fun t k => castTop (ef_6_28 m a1 a2) k
  obtain ⟨cl7, Ar7, -, S7, -, Hs7, -⟩ := id pr1
  have hin7 : ¬ ((0 : Int32) < 0 ∨ cl7.slots.size ≤ ((0 : Int32)).toNatClampNeg) := inb_of S7 ⟨by decide, by decide⟩
  have hat7 : cl7.slots[((0 : Int32)).toNatClampNeg]? = some (.int p3) := Hs7.at hin7 rfl
  obtain ⟨cl9, Ar9, q9, S9, M9, Hs9, G9⟩ := id pr3
  have hin9 : ¬ ((0 : Int32) < 0 ∨ cl9.slots.size ≤ ((0 : Int32)).toNatClampNeg) := inb_of S9 ⟨by decide, by decide⟩
  obtain ⟨T10, h10, X10, e10, W10, st10⟩ := stB X0 hx hZ e0 Ar9 (j := (0 : Int32)) hin9 (g := (mkF m 31 #[rv a1, iv (0 : Int32), rv a2, iv (0 : Int32), iv (3 : Int32), iv (0 : Int32), iv p3] [(.int (p3.toInt8.toInt32)), (.int (0 : Int32)), (.ref a2)])) rfl rfl (hb hby d6_31)
  have V10 : Arv Z h10 a2 k8 .byte (3 : Int32) [(.int ((p3.toInt8.toInt32).toInt8.toInt32)), (.int (0 : Int32)), (.int (0 : Int32))] (.int (0 : Int32)) := Arv.set Ar9 q9 S9 M9 Hs9 G9 (fits_nar_byte _) W10 0 rfl (Nat.le_of_ble_eq_true rfl)
  have KK10 : Keep h0 h10 [a2] := (Keep.refl h0 [a2]).wr W10 (Or.inl (List.mem_of_getElem? (i := 0) rfl))
  have OL10 := OL0.wr W10 pr4
  have N10 := Fr.snoc X10 N0 pr4
  have fc11 := (pr1.other W10 pr5)
  obtain ⟨cl12, Ar12, -, S12, -, Hs12, -⟩ := id fc11
  have hin12 : ¬ ((1 : Int32) < 0 ∨ cl12.slots.size ≤ ((1 : Int32)).toNatClampNeg) := inb_of S12 ⟨by decide, by decide⟩
  have hat12 : cl12.slots[((1 : Int32)).toNatClampNeg]? = some (.int p4) := Hs12.at hin12 rfl
  obtain ⟨fs, hr, hrun, hended, hW, hsame⟩ := X10.leave (v := some (.int (1 : Int32))) (fun h => by rw [Bd.returns] at h; cases h)
  refine ⟨_, _, pre0 _ ?_, hrun, hended, _, _, rfl, ?_, ⟨_, rfl⟩, hW, hsame.mono (by decide) (by decide)⟩
  · show SS p e below s₁ m 0 #[rv a1, iv (0 : Int32), rv a2, iv (0 : Int32), iv (3 : Int32), .unset, .unset] [] _
    refine XS.iconst X0.here hx rfl (hb hby d6_0) ?_
    refine XS.istore X0.here hx rfl (hb hby d6_1) rfl (l' := #[rv a1, iv (0 : Int32), rv a2, iv (0 : Int32), iv (3 : Int32), iv (0 : Int32), .unset]) rfl ?_
    refine XS.iload X0.here hx rfl (hb hby d6_3) rfl ?_
    refine XS.iload X0.here hx rfl (hb hby d6_5) rfl ?_
    show SS p e below s₁ m 7 #[rv a1, iv (0 : Int32), rv a2, iv (0 : Int32), iv (3 : Int32), iv (0 : Int32), .unset] [(.int (3 : Int32)), (.int (0 : Int32))] _
    refine XS.icmpNo X0.here hx rfl (hb hby d6_7) rfl (tlt (by decide : (0 : Int32) < (3 : Int32))).2.1 ?_
    show SS p e below s₁ m 10 #[rv a1, iv (0 : Int32), rv a2, iv (0 : Int32), iv (3 : Int32), iv (0 : Int32), .unset] [] _
    refine XS.aloadN X0.here hx rfl (hb hby d6_10) rfl rfl ?_
    refine XS.iloadN X0.here hx rfl (hb hby d6_11) rfl ?_
    show SS p e below s₁ m 12 #[rv a1, iv (0 : Int32), rv a2, iv (0 : Int32), iv (3 : Int32), iv (0 : Int32), .unset] [(.int (0 : Int32)), (.ref a1)] _
    refine X0.caload hx (j := (0 : Int32)) (v := (.int p3)) (by rw [e0]; exact Ar7.1) (State.isArrayOf_alike hZ.alike Ar7.2.1) Ar7.2.2 hin7 hat7 (g := (mkF m 12 #[rv a1, iv (0 : Int32), rv a2, iv (0 : Int32), iv (3 : Int32), iv (0 : Int32), .unset] [(.int (0 : Int32)), (.ref a1)])) rfl rfl (hb hby d6_12) _ ?_
    show SS p e below s₁ m 13 #[rv a1, iv (0 : Int32), rv a2, iv (0 : Int32), iv (3 : Int32), iv (0 : Int32), .unset] [(.int p3)] _
    refine XS.istore X0.here hx rfl (hb hby d6_13) rfl (l' := #[rv a1, iv (0 : Int32), rv a2, iv (0 : Int32), iv (3 : Int32), iv (0 : Int32), iv p3]) rfl ?_
    refine XS.iload X0.here hx rfl (hb hby d6_15) rfl ?_
    refine XS.sipush X0.here hx rfl (hb hby d6_17) ?_
    show SS p e below s₁ m 20 #[rv a1, iv (0 : Int32), rv a2, iv (0 : Int32), iv (3 : Int32), iv (0 : Int32), iv p3] [(.int (255 : Int32)), (.int p3)] _
    refine XS.icmpYes X0.here hx rfl (pc0 := 20) (pc' := 26) rfl (hb hby d6_20) rfl (flt pr2).2.2.2 (by decide) (by decide) ?_
    show SS p e below s₁ m 26 #[rv a1, iv (0 : Int32), rv a2, iv (0 : Int32), iv (3 : Int32), iv (0 : Int32), iv p3] [] _
    refine XS.aloadN X0.here hx rfl (hb hby d6_26) rfl rfl ?_
    refine XS.iloadN X0.here hx rfl (hb hby d6_27) rfl ?_
    refine XS.iload X0.here hx rfl (hb hby d6_28) rfl ?_
    show SS p e below s₁ m 30 #[rv a1, iv (0 : Int32), rv a2, iv (0 : Int32), iv (3 : Int32), iv (0 : Int32), iv p3] [(.int p3), (.int (0 : Int32)), (.ref a2)] _
    refine XS.i2b X0.here hx rfl (hb hby d6_30) rfl ?_
    show SS p e below s₁ m 31 #[rv a1, iv (0 : Int32), rv a2, iv (0 : Int32), iv (3 : Int32), iv (0 : Int32), iv p3] [(.int (p3.toInt8.toInt32)), (.int (0 : Int32)), (.ref a2)] _
    refine st10 _ ?_
    show SS p e below T10 m 32 #[rv a1, iv (0 : Int32), rv a2, iv (0 : Int32), iv (3 : Int32), iv (0 : Int32), iv p3] [] _
    refine XS.iinc X10.here hx rfl (hb hby d6_32) rfl (l' := #[rv a1, .val (.int ((0 : Int32) + (1 : Int32))), rv a2, iv (0 : Int32), iv (3 : Int32), iv (0 : Int32), iv p3]) rfl ?_
    show SS p e below T10 m 35 #[rv a1, iv (1 : Int32), rv a2, iv (0 : Int32), iv (3 : Int32), iv (0 : Int32), iv p3] [] _
    refine XS.iinc X10.here hx rfl (hb hby d6_35) rfl (l' := #[rv a1, iv (1 : Int32), rv a2, .val (.int ((0 : Int32) + (1 : Int32))), iv (3 : Int32), iv (0 : Int32), iv p3]) rfl ?_
    show SS p e below T10 m 38 #[rv a1, iv (1 : Int32), rv a2, iv (1 : Int32), iv (3 : Int32), iv (0 : Int32), iv p3] [] _
    refine XS.iinc X10.here hx rfl (hb hby d6_38) rfl (l' := #[rv a1, iv (1 : Int32), rv a2, iv (1 : Int32), iv (3 : Int32), .val (.int ((0 : Int32) + (1 : Int32))), iv p3]) rfl ?_
    show SS p e below T10 m 41 #[rv a1, iv (1 : Int32), rv a2, iv (1 : Int32), iv (3 : Int32), iv (1 : Int32), iv p3] [] _
    refine XS.goto X10.here hx rfl (pc0 := 41) (pc' := 3) rfl (hb hby d6_41) (by decide) (by decide) ?_
    refine XS.iload X10.here hx rfl (hb hby d6_3) rfl ?_
    refine XS.iload X10.here hx rfl (hb hby d6_5) rfl ?_
    show SS p e below T10 m 7 #[rv a1, iv (1 : Int32), rv a2, iv (1 : Int32), iv (3 : Int32), iv (1 : Int32), iv p3] [(.int (3 : Int32)), (.int (1 : Int32))] _
    refine XS.icmpNo X10.here hx rfl (hb hby d6_7) rfl (tlt (by decide : (1 : Int32) < (3 : Int32))).2.1 ?_
    show SS p e below T10 m 10 #[rv a1, iv (1 : Int32), rv a2, iv (1 : Int32), iv (3 : Int32), iv (1 : Int32), iv p3] [] _
    refine XS.aloadN X10.here hx rfl (hb hby d6_10) rfl rfl ?_
    refine XS.iloadN X10.here hx rfl (hb hby d6_11) rfl ?_
    show SS p e below T10 m 12 #[rv a1, iv (1 : Int32), rv a2, iv (1 : Int32), iv (3 : Int32), iv (1 : Int32), iv p3] [(.int (1 : Int32)), (.ref a1)] _
    refine X10.caload hx (j := (1 : Int32)) (v := (.int p4)) (by rw [e10]; exact Ar12.1) (State.isArrayOf_alike hZ.alike Ar12.2.1) Ar12.2.2 hin12 hat12 (g := (mkF m 12 #[rv a1, iv (1 : Int32), rv a2, iv (1 : Int32), iv (3 : Int32), iv (1 : Int32), iv p3] [(.int (1 : Int32)), (.ref a1)])) rfl rfl (hb hby d6_12) _ ?_
    show SS p e below T10 m 13 #[rv a1, iv (1 : Int32), rv a2, iv (1 : Int32), iv (3 : Int32), iv (1 : Int32), iv p3] [(.int p4)] _
    refine XS.istore X10.here hx rfl (hb hby d6_13) rfl (l' := #[rv a1, iv (1 : Int32), rv a2, iv (1 : Int32), iv (3 : Int32), iv (1 : Int32), iv p4]) rfl ?_
    refine XS.iload X10.here hx rfl (hb hby d6_15) rfl ?_
    refine XS.sipush X10.here hx rfl (hb hby d6_17) ?_
    show SS p e below T10 m 20 #[rv a1, iv (1 : Int32), rv a2, iv (1 : Int32), iv (3 : Int32), iv (1 : Int32), iv p4] [(.int (255 : Int32)), (.int p4)] _
    refine XS.icmpNo X10.here hx rfl (hb hby d6_20) rfl (tlt pr6).2.2.2 ?_
    show SS p e below T10 m 23 #[rv a1, iv (1 : Int32), rv a2, iv (1 : Int32), iv (3 : Int32), iv (1 : Int32), iv p4] [] _
    refine XS.iload X10.here hx rfl (hb hby d6_23) rfl ?_
    show SS p e below T10 m 25 #[rv a1, iv (1 : Int32), rv a2, iv (1 : Int32), iv (3 : Int32), iv (1 : Int32), iv p4] [(.int (1 : Int32))] _
    exact retI X10 hx Bd.returns (hb hby d6_25) hr
  · show Q_rm6_4 Z a1 a2 p3 p4 p5 k6 k8 h0 n0 _ T10.heap _
    rw [e10]
    exact ⟨rfl, N10, KK10, V10⟩
def Q_rm18_3 (Z : State) (a1 : Addr) (p3 : Int32) (p4 : Int32) (p5 : Int32) (p6 : Int32) (p7 : Int32) (p8 : Int32) (k9 : ClassId) (h0 : Heap) (n0 : Nat) (v : Option Value) (h : Heap) (L : List Loc) : Prop := v = some (.int (nar .char ((((p5 &&& (255 : Int32)) <<< ((0 : Int32) &&& 31)) ||| ((p6 &&& (255 : Int32)) <<< ((8 : Int32) &&& 31))).toUInt32.toUInt16.toUInt32.toInt32))) ∧ Fr n0 L ∧ h = h0
set_option maxRecDepth 65536 in
set_option maxHeartbeats 40000000 in
theorem rm18_3 (l : Launch) (Z : State) (a0 : Array Value) (hw : ∀ d ∈ tables_1, d.before a0 Z = true) (ws : List Jvm.Cond) (a1 : Addr) (p3 : Int32) (p4 : Int32) (p5 : Int32) (p6 : Int32) (p7 : Int32) (p8 : Int32) (k9 : ClassId) (h0 : Heap) (n0 : Nat) (OL0 : Old Z n0 h0) (pr1 : Sta Z Z.heap "java/lang/StringUTF16" "$assertionsDisabled" "Z" (.int (1 : Int32))) (pr2 : Arv Z h0 a1 k9 .byte (6 : Int32) [(.int p3), (.int p4), (.int p5), (.int p6), (.int p7), (.int p8)] (.int (0 : Int32))) (pr3 : Sta Z Z.heap "java/lang/StringUTF16" "HI_BYTE_SHIFT" "I" (.int (0 : Int32))) (pr4 : Sta Z Z.heap "java/lang/StringUTF16" "LO_BYTE_SHIFT" "I" (.int (8 : Int32))) :
    MetFree l mn18 (head1 (Jvm.Cond.code mn18 jdk_52_method_5_code 2 (some .char) :: ws) ({ frames := 0, cells := 0, slots := 0, locals := 0 } : Room)) (fun a U => a = #[(.ref a1), (.int (1 : Int32))] ∧ Z.Warmed39 U.vm ∧ U.heap = h0) (fun _ _ _ _ _ => True) (fun _ U o U' => ∃ v L, o = .returned v ∧ Q_rm18_3 Z a1 p3 p4 p5 p6 p7 p8 k9 h0 n0 v U'.heap L ∧ FrameEnd U o U' L ({ frames := 0, cells := 0, slots := 0, locals := 0 } : Room).cells ({ frames := 0, cells := 0, slots := 0, locals := 0 } : Room).slots) := by
  refine MetFree.of_bodySF (plainFor_of_name pn_6) hisR ?_
  intro p e s m args below meth c s₁ Bd hml0 hP hK
  obtain ⟨rfl, hZ, hh⟩ := hP
  have hx := Bd.exec
  have hby := Bd.bytes
  have hml : c.maxLocals = 2 := hml0
  have hown : s.vm.findClass "java/lang/StringUTF16" = some m.cls := findClass_of_methodNamed Bd.named
  have hnm := (name_of_methodNamed Bd.named Bd.method).1
  have X0 : Stand p l e ({ frames := 0, cells := 0, slots := 0, locals := 0 } : Room) s m #[(.ref a1), (.int (1 : Int32))] below meth c s₁ [] 0 0 := Stand.of_body Bd
  have e0 : s₁.heap = h0 := by rw [← hh, Bd.state]; rfl
  have N0 := Fr.nil n0
  have pre0 : ∀ t, SS p e below s₁ m 0 #[rv a1, iv (1 : Int32)] [] t → Steps p.tables e below (s₁.setTop (entryFrame m #[(.ref a1), (.int (1 : Int32))] 2)) t := fun t k => castTop (ef_18_27 m a1) k
  obtain ⟨T2, X2, e2, st2⟩ := getS2 X0 hx hZ hown (host := "") (Or.inl (wd92 hw)) Via.refl e0 (pr1.ext OL0.2) (g := (mkF m 0 #[rv a1, iv (1 : Int32)] [])) rfl (hb hby d18_0)
  obtain ⟨cl10, Ar10, -, S10, -, Hs10, -⟩ := id pr2
  have hin10 : ¬ ((2 : Int32) < 0 ∨ cl10.slots.size ≤ ((2 : Int32)).toNatClampNeg) := inb_of S10 ⟨by decide, by decide⟩
  have hat10 : cl10.slots[((2 : Int32)).toNatClampNeg]? = some (.int p5) := Hs10.at hin10 rfl
  obtain ⟨T11, X11, e11, st11⟩ := getS2 X2 hx hZ hown (host := "") (Or.inl (wd93 hw)) Via.refl e2 (pr3.ext OL0.2) (g := (mkF m 42 #[rv a1, iv (3 : Int32)] [(.int (p5 &&& (255 : Int32)))])) rfl (hb hby d18_42)
  obtain ⟨cl12, Ar12, -, S12, -, Hs12, -⟩ := id pr2
  have hin12 : ¬ ((3 : Int32) < 0 ∨ cl12.slots.size ≤ ((3 : Int32)).toNatClampNeg) := inb_of S12 ⟨by decide, by decide⟩
  have hat12 : cl12.slots[((3 : Int32)).toNatClampNeg]? = some (.int p6) := Hs12.at hin12 rfl
  obtain ⟨T13, X13, e13, st13⟩ := getS2 X11 hx hZ hown (host := "") (Or.inl (wd94 hw)) Via.refl e11 (pr4.ext OL0.2) (g := (mkF m 53 #[rv a1, iv (3 : Int32)] [(.int (p6 &&& (255 : Int32))), (.int ((p5 &&& (255 : Int32)) <<< ((0 : Int32) &&& 31)))])) rfl (hb hby d18_53)
  obtain ⟨fs, hr, hrun, hended, hW, hsame⟩ := X13.leave (v := some (.int (nar .char ((((p5 &&& (255 : Int32)) <<< ((0 : Int32) &&& 31)) ||| ((p6 &&& (255 : Int32)) <<< ((8 : Int32) &&& 31))).toUInt32.toUInt16.toUInt32.toInt32)))) (fun h => by rw [Bd.returns] at h; cases h)
  refine ⟨_, _, pre0 _ ?_, hrun, hended, _, _, rfl, ?_, ⟨_, rfl⟩, hW, hsame.mono (by decide) (by decide)⟩
  · show SS p e below s₁ m 0 #[rv a1, iv (1 : Int32)] [] _
    refine st2 _ ?_
    show SS p e below T2 m 3 #[rv a1, iv (1 : Int32)] [(.int (1 : Int32))] _
    refine XS.ifYes X2.here hx rfl (pc0 := 3) (pc' := 28) rfl (hb hby d18_3) rfl ((if0 _ _).trans (feq (by decide : ¬ ((1 : Int32) = (0 : Int32)))).2) (by decide) (by decide) ?_
    show SS p e below T2 m 28 #[rv a1, iv (1 : Int32)] [] _
    refine XS.iloadN X2.here hx rfl (hb hby d18_28) rfl ?_
    refine XS.iconst X2.here hx rfl (hb hby d18_29) ?_
    show SS p e below T2 m 30 #[rv a1, iv (1 : Int32)] [(.int (1 : Int32)), (.int (1 : Int32))] _
    refine XS.ishl X2.here hx rfl (hb hby d18_30) rfl ?_
    show SS p e below T2 m 31 #[rv a1, iv (1 : Int32)] [(.int (2 : Int32))] _
    refine XS.istoreN X2.here hx rfl (hb hby d18_31) rfl (l' := #[rv a1, iv (2 : Int32)]) rfl ?_
    refine XS.aloadN X2.here hx rfl (hb hby d18_32) rfl rfl ?_
    refine XS.iloadN X2.here hx rfl (hb hby d18_33) rfl ?_
    show SS p e below T2 m 34 #[rv a1, iv (2 : Int32)] [(.int (2 : Int32)), (.ref a1)] _
    refine XS.iinc X2.here hx rfl (hb hby d18_34) rfl (l' := #[rv a1, .val (.int ((2 : Int32) + (1 : Int32)))]) rfl ?_
    show SS p e below T2 m 37 #[rv a1, iv (3 : Int32)] [(.int (2 : Int32)), (.ref a1)] _
    refine X2.baloadBytes hx (j := (2 : Int32)) (v := (.int p5)) (by rw [e2]; exact Ar10.1) (State.isArrayOf_alike hZ.alike Ar10.2.1) Ar10.2.2 hin10 hat10 (g := (mkF m 37 #[rv a1, iv (3 : Int32)] [(.int (2 : Int32)), (.ref a1)])) rfl rfl (hb hby d18_37) _ ?_
    show SS p e below T2 m 38 #[rv a1, iv (3 : Int32)] [(.int p5)] _
    refine XS.sipush X2.here hx rfl (hb hby d18_38) ?_
    show SS p e below T2 m 41 #[rv a1, iv (3 : Int32)] [(.int (255 : Int32)), (.int p5)] _
    refine XS.iand X2.here hx rfl (hb hby d18_41) rfl ?_
    show SS p e below T2 m 42 #[rv a1, iv (3 : Int32)] [(.int (p5 &&& (255 : Int32)))] _
    refine st11 _ ?_
    show SS p e below T11 m 45 #[rv a1, iv (3 : Int32)] [(.int (0 : Int32)), (.int (p5 &&& (255 : Int32)))] _
    refine XS.ishl X11.here hx rfl (hb hby d18_45) rfl ?_
    show SS p e below T11 m 46 #[rv a1, iv (3 : Int32)] [(.int ((p5 &&& (255 : Int32)) <<< ((0 : Int32) &&& 31)))] _
    refine XS.aloadN X11.here hx rfl (hb hby d18_46) rfl rfl ?_
    refine XS.iloadN X11.here hx rfl (hb hby d18_47) rfl ?_
    show SS p e below T11 m 48 #[rv a1, iv (3 : Int32)] [(.int (3 : Int32)), (.ref a1), (.int ((p5 &&& (255 : Int32)) <<< ((0 : Int32) &&& 31)))] _
    refine X11.baloadBytes hx (j := (3 : Int32)) (v := (.int p6)) (by rw [e11]; exact Ar12.1) (State.isArrayOf_alike hZ.alike Ar12.2.1) Ar12.2.2 hin12 hat12 (g := (mkF m 48 #[rv a1, iv (3 : Int32)] [(.int (3 : Int32)), (.ref a1), (.int ((p5 &&& (255 : Int32)) <<< ((0 : Int32) &&& 31)))])) rfl rfl (hb hby d18_48) _ ?_
    show SS p e below T11 m 49 #[rv a1, iv (3 : Int32)] [(.int p6), (.int ((p5 &&& (255 : Int32)) <<< ((0 : Int32) &&& 31)))] _
    refine XS.sipush X11.here hx rfl (hb hby d18_49) ?_
    show SS p e below T11 m 52 #[rv a1, iv (3 : Int32)] [(.int (255 : Int32)), (.int p6), (.int ((p5 &&& (255 : Int32)) <<< ((0 : Int32) &&& 31)))] _
    refine XS.iand X11.here hx rfl (hb hby d18_52) rfl ?_
    show SS p e below T11 m 53 #[rv a1, iv (3 : Int32)] [(.int (p6 &&& (255 : Int32))), (.int ((p5 &&& (255 : Int32)) <<< ((0 : Int32) &&& 31)))] _
    refine st13 _ ?_
    show SS p e below T13 m 56 #[rv a1, iv (3 : Int32)] [(.int (8 : Int32)), (.int (p6 &&& (255 : Int32))), (.int ((p5 &&& (255 : Int32)) <<< ((0 : Int32) &&& 31)))] _
    refine XS.ishl X13.here hx rfl (hb hby d18_56) rfl ?_
    show SS p e below T13 m 57 #[rv a1, iv (3 : Int32)] [(.int ((p6 &&& (255 : Int32)) <<< ((8 : Int32) &&& 31))), (.int ((p5 &&& (255 : Int32)) <<< ((0 : Int32) &&& 31)))] _
    refine XS.ior X13.here hx rfl (hb hby d18_57) rfl ?_
    show SS p e below T13 m 58 #[rv a1, iv (3 : Int32)] [(.int (((p5 &&& (255 : Int32)) <<< ((0 : Int32) &&& 31)) ||| ((p6 &&& (255 : Int32)) <<< ((8 : Int32) &&& 31))))] _
    refine XS.i2c X13.here hx rfl (hb hby d18_58) rfl ?_
    show SS p e below T13 m 59 #[rv a1, iv (3 : Int32)] [(.int ((((p5 &&& (255 : Int32)) <<< ((0 : Int32) &&& 31)) ||| ((p6 &&& (255 : Int32)) <<< ((8 : Int32) &&& 31))).toUInt32.toUInt16.toUInt32.toInt32))] _
    exact retN X13 hx (t := .char) Bd.returns (by simp) (hb hby d18_59) hr
  · show Q_rm18_3 Z a1 p3 p4 p5 p6 p7 p8 k9 h0 n0 _ T13.heap _
    rw [e13]
    exact ⟨rfl, N0, rfl⟩
def Q_rm5_4 (Z : State) (a1 : Addr) (p3 : Int32) (p4 : Int32) (p5 : Int32) (k6 : ClassId) (h0 : Heap) (n0 : Nat) (v : Option Value) (h : Heap) (L : List Loc) : Prop := ∃ b9_0 : Addr, ∃ kx9_0 : ClassId, v = some (.ref b9_0) ∧ Fr n0 L ∧ Keep h0 h [] ∧ h0.size ≤ b9_0 ∧ Arv Z h b9_0 kx9_0 .byte (6 : Int32) [(.int (((p3 >>> ((0 : Int32) &&& 31)).toInt8.toInt32).toInt8.toInt32)), (.int (((p3 >>> ((8 : Int32) &&& 31)).toInt8.toInt32).toInt8.toInt32)), (.int (((p4 >>> ((0 : Int32) &&& 31)).toInt8.toInt32).toInt8.toInt32)), (.int (((p4 >>> ((8 : Int32) &&& 31)).toInt8.toInt32).toInt8.toInt32)), (.int (((p5 >>> ((0 : Int32) &&& 31)).toInt8.toInt32).toInt8.toInt32)), (.int (((p5 >>> ((8 : Int32) &&& 31)).toInt8.toInt32).toInt8.toInt32))] (.int (0 : Int32))
set_option maxRecDepth 65536 in
set_option maxHeartbeats 40000000 in
theorem rm5_4 (l : Launch) (Z : State) (a0 : Array Value) (hw : ∀ d ∈ tables_1, d.before a0 Z = true) (ws : List Jvm.Cond) (a1 : Addr) (p3 : Int32) (p4 : Int32) (p5 : Int32) (k6 : ClassId) (h0 : Heap) (n0 : Nat) (OL0 : Old Z n0 h0) (pr1 : Arv Z h0 a1 k6 .char (3 : Int32) [(.int p3), (.int p4), (.int p5)] (.int (0 : Int32))) (pr2 : ¬ ((255 : Int32) < p3)) (pr3 : (255 : Int32) < p4) (pr4 : Sta Z Z.heap "java/lang/StringUTF16" "$assertionsDisabled" "Z" (.int (1 : Int32))) (pr5 : Sta Z Z.heap "java/lang/StringUTF16" "HI_BYTE_SHIFT" "I" (.int (0 : Int32))) (pr6 : Sta Z Z.heap "java/lang/StringUTF16" "LO_BYTE_SHIFT" "I" (.int (8 : Int32))) (pr7 : (255 : Int32) < (nar .char (((((((p4 >>> ((0 : Int32) &&& 31)).toInt8.toInt32).toInt8.toInt32) &&& (255 : Int32)) <<< ((0 : Int32) &&& 31)) ||| (((((p4 >>> ((8 : Int32) &&& 31)).toInt8.toInt32).toInt8.toInt32) &&& (255 : Int32)) <<< ((8 : Int32) &&& 31))).toUInt32.toUInt16.toUInt32.toInt32))) :
    MetFree l mn5 (head1 (Jvm.Cond.code mn5 jdk_52_method_16_code 6 (some (.array .byte)) :: ws) ({ frames := 3, cells := 2, slots := 9, locals := 40 } : Room)) (fun a U => a = #[(.ref a1), (.int (0 : Int32)), (.int (3 : Int32))] ∧ Z.Warmed39 U.vm ∧ U.heap = h0) (fun _ _ _ _ _ => True) (fun _ U o U' => ∃ v L, o = .returned v ∧ Q_rm5_4 Z a1 p3 p4 p5 k6 h0 n0 v U'.heap L ∧ FrameEnd U o U' L ({ frames := 3, cells := 2, slots := 9, locals := 40 } : Room).cells ({ frames := 3, cells := 2, slots := 9, locals := 40 } : Room).slots) := by
  refine MetFree.of_bodySF (plainFor_of_name pn_6) hisR ?_
  intro p e s m args below meth c s₁ Bd hml0 hP hK
  obtain ⟨rfl, hZ, hh⟩ := hP
  have hx := Bd.exec
  have hby := Bd.bytes
  have hml : c.maxLocals = 6 := hml0
  have hown : s.vm.findClass "java/lang/StringUTF16" = some m.cls := findClass_of_methodNamed Bd.named
  have hnm := (name_of_methodNamed Bd.named Bd.method).1
  have X0 : Stand p l e ({ frames := 3, cells := 2, slots := 9, locals := 40 } : Room) s m #[(.ref a1), (.int (0 : Int32)), (.int (3 : Int32))] below meth c s₁ [] 0 0 := Stand.of_body Bd
  have e0 : s₁.heap = h0 := by rw [← hh, Bd.state]; rfl
  have N0 := Fr.nil n0
  have pre0 : ∀ t, SS p e below s₁ m 0 #[rv a1, iv (0 : Int32), iv (3 : Int32), .unset, .unset, .unset] [] t → Steps p.tables e below (s₁.setTop (entryFrame m #[(.ref a1), (.int (0 : Int32)), (.int (3 : Int32))] 6)) t := fun t k => castTop (ef_5_33 m a1) k
  obtain ⟨T2, h2, k2, X2, e2, E2, A2, st2⟩ := newP (aty := .byte) X0 hx hZ (wd24 hw) e0 (g := (mkF m 1 #[rv a1, iv (0 : Int32), iv (3 : Int32), .unset, .unset, .unset] [(.int (3 : Int32))])) rfl (hb hby d5_1) rfl (by decide) (cap := 3) (by decide) (by decide) (by decide) (by decide)
  obtain ⟨b2, g2⟩ : ∃ z, z = h0.size := ⟨_, rfl⟩
  rw [← g2] at A2 st2
  have V2 : Arv Z h2 b2 k2 .byte (3 : Int32) [(.int (0 : Int32)), (.int (0 : Int32)), (.int (0 : Int32))] (.int (0 : Int32)) := (Arv.new A2 (by decide)).pad (pad_rep [] (.int (0 : Int32)) 3)
  have g_b2 : n0 ≤ b2 := (Nat.le_trans (Nat.le_trans (Nat.le_of_eq OL0.1.symm) OL0.2.1) (Nat.le_of_eq g2.symm))
  have sz_b2 : h0.size ≤ b2 := (Nat.le_trans (Keep.refl h0 []).1 (Nat.le_of_eq g2.symm))
  have KK2 : Keep h0 h2 [] := (Keep.refl h0 []).ext E2
  have OL2 := OL0.ext E2
  have fc8 := (pr1.ext E2)
  obtain ⟨_, _, ⟨T7, L7, k7, n7⟩, -, X7, ⟨Lc7, hQ7, l7, y7, z7⟩, st7⟩ := Jvm.LawKit.callS X2 hx (y := mn6) hown (mvT hZ (wd25 hw)) (mvT hZ (wd26 hw)) (mvT hZ (wd22 hw)) (mvT hZ (wd27 hw)) (by decide) (backOf (W := 0) (rm6_4 l Z a0 hw [] a1 b2 p3 p4 p5 k6 k2 h2 n0 OL2 fc8 pr2 V2 g_b2 (Nat.ne_of_lt (Nat.lt_of_lt_of_le pr1.lt sz_b2)) pr3) hZ (wd27 hw) (wd22 hw) (by decide) (by decide)) (g := (mkF m 9 #[rv a1, iv (0 : Int32), iv (3 : Int32), rv b2, .unset, .unset] [(.int (3 : Int32)), (.int (0 : Int32)), (.ref b2), (.int (0 : Int32)), (.ref a1)])) rfl (by rw [hml]; rfl) (argsL := [(.ref a1), (.int (0 : Int32)), (.ref b2), (.int (0 : Int32)), (.int (3 : Int32))]) (rest := []) (lenOf pd_14 rfl) rfl (by show 2 * 0 + _ ≤ _; exact Nat.le_of_eq rfl) (hb hby d5_9) (fun _ _ => ⟨rfl, e2, (by decide : 1 + 0 ≤ _), (by decide : 3 + 0 ≤ _)⟩)
  dsimp only [Pt.U, Pt.locs, Pt.cells, Pt.slots] at X7 l7 y7 z7 st7 hQ7
  subst l7 y7 z7
  obtain ⟨rfl, Nq7, K7, u7_0⟩ := hQ7
  have KK7 : Keep h0 T7.heap [] := KK2.trans K7 (allS (Or.inr sz_b2) all0)
  have OL7 := OL2.keep K7 (allS g_b2 all0)
  have N7 := Fr.app N0 Nq7
  have fc10 := (fc8.keep K7 (ninS (Nat.ne_of_lt (Nat.lt_of_lt_of_le pr1.lt sz_b2)) nin0))
  obtain ⟨_, _, ⟨T9, L9, k9, n9⟩, -, X9, ⟨Lc9, hQ9, l9, y9, z9⟩, st9⟩ := Jvm.LawKit.callS X7 hx (y := mn14) hown (mvT hZ (wd79 hw)) (mvT hZ (wd80 hw)) (mvT hZ (wd22 hw)) (mvT hZ (wd81 hw)) (by decide) (backOf (W := 0) (rm14_1 l Z a0 hw [] a1 p3 p4 p5 k6 T7.heap n0 OL7 fc10 pr4 pr5 pr6) hZ (wd81 hw) (wd22 hw) (by decide) (by decide)) (g := (mkF m 23 #[rv a1, iv (0 : Int32), iv (3 : Int32), rv b2, iv (1 : Int32), .unset] [(.int (3 : Int32)), (.int (0 : Int32)), (.ref a1)])) rfl (by rw [hml]; rfl) (argsL := [(.ref a1), (.int (0 : Int32)), (.int (3 : Int32))]) (rest := []) (lenOf pd_17 rfl) rfl (by show 2 * 0 + _ ≤ _; exact Nat.le_of_eq rfl) (hb hby d5_23) (fun _ _ => ⟨rfl, rfl, (by decide : 1 + 1 ≤ _), (by decide : 3 + 6 ≤ _)⟩)
  dsimp only [Pt.U, Pt.locs, Pt.cells, Pt.slots] at X9 l9 y9 z9 st9 hQ9
  subst l9 y9 z9
  obtain ⟨b9_0, kx9_0, rfl, Nq9, K9, u9_0, u9_1⟩ := hQ9
  have KK9 : Keep h0 T9.heap [] := KK7.trans K9 all0
  have OL9 := OL7.keep K9 all0
  have g_b9_0 : n0 ≤ b9_0 := Nat.le_trans (Nat.le_trans (Nat.le_of_eq OL7.1.symm) OL7.2.1) u9_0
  have sz_b9_0 : h0.size ≤ b9_0 := Nat.le_trans KK7.1 u9_0
  have N9 := Fr.app N7 Nq9
  obtain ⟨_, _, ⟨T11, L11, k11, n11⟩, -, X11, ⟨Lc11, hQ11, l11, y11, z11⟩, st11⟩ := Jvm.LawKit.callS X9 hx (y := mn18) hown (mvT hZ (wd95 hw)) (mvT hZ (wd96 hw)) (mvT hZ (wd22 hw)) (mvT hZ (wd97 hw)) (by decide) (backOf (W := 0) (rm18_3 l Z a0 hw [] b9_0 (((p3 >>> ((0 : Int32) &&& 31)).toInt8.toInt32).toInt8.toInt32) (((p3 >>> ((8 : Int32) &&& 31)).toInt8.toInt32).toInt8.toInt32) (((p4 >>> ((0 : Int32) &&& 31)).toInt8.toInt32).toInt8.toInt32) (((p4 >>> ((8 : Int32) &&& 31)).toInt8.toInt32).toInt8.toInt32) (((p5 >>> ((0 : Int32) &&& 31)).toInt8.toInt32).toInt8.toInt32) (((p5 >>> ((8 : Int32) &&& 31)).toInt8.toInt32).toInt8.toInt32) kx9_0 T9.heap n0 OL9 pr4 u9_1 pr5 pr6) hZ (wd97 hw) (wd22 hw) (by decide) (by decide)) (g := (mkF m 32 #[rv a1, iv (0 : Int32), iv (3 : Int32), rv b2, iv (1 : Int32), rv b9_0] [(.int (1 : Int32)), (.ref b9_0)])) rfl (by rw [hml]; rfl) (argsL := [(.ref b9_0), (.int (1 : Int32))]) (rest := []) (lenOf pd_18 rfl) rfl (by show 2 * 0 + _ ≤ _; exact Nat.le_of_eq rfl) (hb hby d5_32) (fun _ _ => ⟨rfl, rfl, (by decide : 2 + 0 ≤ _), (by decide : 9 + 0 ≤ _)⟩)
  dsimp only [Pt.U, Pt.locs, Pt.cells, Pt.slots] at X11 l11 y11 z11 st11 hQ11
  subst l11 y11 z11
  obtain ⟨rfl, Nq11, ec11⟩ := hQ11
  have N11 := Fr.app N9 Nq11
  obtain ⟨fs, hr, hrun, hended, hW, hsame⟩ := X11.leave (v := some (.ref b9_0)) (fun h => by rw [Bd.returns] at h; cases h)
  refine ⟨_, _, pre0 _ ?_, hrun, hended, _, _, rfl, ?_, ⟨_, rfl⟩, hW, hsame.mono (by decide) (by decide)⟩
  · show SS p e below s₁ m 0 #[rv a1, iv (0 : Int32), iv (3 : Int32), .unset, .unset, .unset] [] _
    refine XS.iloadN X0.here hx rfl (hb hby d5_0) rfl ?_
    show SS p e below s₁ m 1 #[rv a1, iv (0 : Int32), iv (3 : Int32), .unset, .unset, .unset] [(.int (3 : Int32))] _
    refine st2 _ ?_
    show SS p e below T2 m 3 #[rv a1, iv (0 : Int32), iv (3 : Int32), .unset, .unset, .unset] [(.ref b2)] _
    refine XS.astoreN X2.here hx rfl (hb hby d5_3) rfl rfl (l' := #[rv a1, iv (0 : Int32), iv (3 : Int32), rv b2, .unset, .unset]) rfl ?_
    refine XS.aloadN X2.here hx rfl (hb hby d5_4) rfl rfl ?_
    refine XS.iloadN X2.here hx rfl (hb hby d5_5) rfl ?_
    refine XS.aloadN X2.here hx rfl (hb hby d5_6) rfl rfl ?_
    show SS p e below T2 m 7 #[rv a1, iv (0 : Int32), iv (3 : Int32), rv b2, .unset, .unset] [(.ref b2), (.int (0 : Int32)), (.ref a1)] _
    refine XS.iconst X2.here hx rfl (hb hby d5_7) ?_
    refine XS.iloadN X2.here hx rfl (hb hby d5_8) rfl ?_
    show SS p e below T2 m 9 #[rv a1, iv (0 : Int32), iv (3 : Int32), rv b2, .unset, .unset] [(.int (3 : Int32)), (.int (0 : Int32)), (.ref b2), (.int (0 : Int32)), (.ref a1)] _
    refine st7 _ ?_
    show SS p e below T7 m 12 #[rv a1, iv (0 : Int32), iv (3 : Int32), rv b2, .unset, .unset] [(.int (1 : Int32))] _
    refine XS.istore X7.here hx rfl (hb hby d5_12) rfl (l' := #[rv a1, iv (0 : Int32), iv (3 : Int32), rv b2, iv (1 : Int32), .unset]) rfl ?_
    refine XS.iload X7.here hx rfl (hb hby d5_14) rfl ?_
    refine XS.iloadN X7.here hx rfl (hb hby d5_16) rfl ?_
    show SS p e below T7 m 17 #[rv a1, iv (0 : Int32), iv (3 : Int32), rv b2, iv (1 : Int32), .unset] [(.int (3 : Int32)), (.int (1 : Int32))] _
    refine XS.icmpNo X7.here hx rfl (hb hby d5_17) rfl (feq (by decide : ¬ ((1 : Int32) = (3 : Int32)))).1 ?_
    show SS p e below T7 m 20 #[rv a1, iv (0 : Int32), iv (3 : Int32), rv b2, iv (1 : Int32), .unset] [] _
    refine XS.aloadN X7.here hx rfl (hb hby d5_20) rfl rfl ?_
    refine XS.iloadN X7.here hx rfl (hb hby d5_21) rfl ?_
    refine XS.iloadN X7.here hx rfl (hb hby d5_22) rfl ?_
    show SS p e below T7 m 23 #[rv a1, iv (0 : Int32), iv (3 : Int32), rv b2, iv (1 : Int32), .unset] [(.int (3 : Int32)), (.int (0 : Int32)), (.ref a1)] _
    refine st9 _ ?_
    show SS p e below T9 m 26 #[rv a1, iv (0 : Int32), iv (3 : Int32), rv b2, iv (1 : Int32), .unset] [(.ref b9_0)] _
    refine XS.astore X9.here hx rfl (hb hby d5_26) rfl rfl (l' := #[rv a1, iv (0 : Int32), iv (3 : Int32), rv b2, iv (1 : Int32), rv b9_0]) rfl ?_
    refine XS.aload X9.here hx rfl (hb hby d5_28) rfl rfl ?_
    refine XS.iload X9.here hx rfl (hb hby d5_30) rfl ?_
    show SS p e below T9 m 32 #[rv a1, iv (0 : Int32), iv (3 : Int32), rv b2, iv (1 : Int32), rv b9_0] [(.int (1 : Int32)), (.ref b9_0)] _
    refine st11 _ ?_
    show SS p e below T11 m 35 #[rv a1, iv (0 : Int32), iv (3 : Int32), rv b2, iv (1 : Int32), rv b9_0] [(.int (nar .char (((((((p4 >>> ((0 : Int32) &&& 31)).toInt8.toInt32).toInt8.toInt32) &&& (255 : Int32)) <<< ((0 : Int32) &&& 31)) ||| (((((p4 >>> ((8 : Int32) &&& 31)).toInt8.toInt32).toInt8.toInt32) &&& (255 : Int32)) <<< ((8 : Int32) &&& 31))).toUInt32.toUInt16.toUInt32.toInt32)))] _
    refine XS.sipush X11.here hx rfl (hb hby d5_35) ?_
    show SS p e below T11 m 38 #[rv a1, iv (0 : Int32), iv (3 : Int32), rv b2, iv (1 : Int32), rv b9_0] [(.int (255 : Int32)), (.int (nar .char (((((((p4 >>> ((0 : Int32) &&& 31)).toInt8.toInt32).toInt8.toInt32) &&& (255 : Int32)) <<< ((0 : Int32) &&& 31)) ||| (((((p4 >>> ((8 : Int32) &&& 31)).toInt8.toInt32).toInt8.toInt32) &&& (255 : Int32)) <<< ((8 : Int32) &&& 31))).toUInt32.toUInt16.toUInt32.toInt32)))] _
    refine XS.icmpYes X11.here hx rfl (pc0 := 38) (pc' := 54) rfl (hb hby d5_38) rfl (tlt pr7).2.2.1 (by decide) (by decide) ?_
    show SS p e below T11 m 54 #[rv a1, iv (0 : Int32), iv (3 : Int32), rv b2, iv (1 : Int32), rv b9_0] [] _
    refine XS.aload X11.here hx rfl (hb hby d5_54) rfl rfl ?_
    show SS p e below T11 m 56 #[rv a1, iv (0 : Int32), iv (3 : Int32), rv b2, iv (1 : Int32), rv b9_0] [(.ref b9_0)] _
    jvm_step X11.here [X11.here.top, hx, (hb hby d5_56), X11.method', Bd.returns, Value.isRef, FieldType.isReference]
    first | (intro acts; rw [hr _ acts rfl rfl rfl]) | rw [hr _ _ rfl rfl rfl]
    exact Steps.refl _
  · show Q_rm5_4 Z a1 p3 p4 p5 k6 h0 n0 _ T11.heap _
    rw [ec11]
    exact ⟨b9_0, kx9_0, rfl, N11, KK9, sz_b9_0, u9_1⟩
def Q_rm3_5 (Z : State) (a1 : Addr) (a2 : Addr) (p4 : Int32) (p6 : Int32) (p7 : Int32) (p8 : Int32) (k9 : ClassId) (h0 : Heap) (n0 : Nat) (v : Option Value) (h : Heap) (L : List Loc) : Prop := ∃ b10_0 : Addr, ∃ kx10_0 : ClassId, v = none ∧ Fr n0 L ∧ Keep h0 h [a1] ∧ h0.size ≤ b10_0 ∧ Fld Z h a1 "java/lang/String" "coder" "B" (.int (1 : Int32)) ∧ Fld Z h a1 "java/lang/String" "value" "[B" (.ref b10_0) ∧ Arv Z h b10_0 kx10_0 .byte (6 : Int32) [(.int (((p6 >>> ((0 : Int32) &&& 31)).toInt8.toInt32).toInt8.toInt32)), (.int (((p6 >>> ((8 : Int32) &&& 31)).toInt8.toInt32).toInt8.toInt32)), (.int (((p7 >>> ((0 : Int32) &&& 31)).toInt8.toInt32).toInt8.toInt32)), (.int (((p7 >>> ((8 : Int32) &&& 31)).toInt8.toInt32).toInt8.toInt32)), (.int (((p8 >>> ((0 : Int32) &&& 31)).toInt8.toInt32).toInt8.toInt32)), (.int (((p8 >>> ((8 : Int32) &&& 31)).toInt8.toInt32).toInt8.toInt32))] (.int (0 : Int32))
set_option maxRecDepth 65536 in
set_option maxHeartbeats 40000000 in
theorem rm3_5 (l : Launch) (Z : State) (a0 : Array Value) (hw : ∀ d ∈ tables_1, d.before a0 Z = true) (ws : List Jvm.Cond) (a1 : Addr) (a2 : Addr) (p4 : Int32) (p6 : Int32) (p7 : Int32) (p8 : Int32) (k9 : ClassId) (h0 : Heap) (n0 : Nat) (OL0 : Old Z n0 h0) (pr1 : Sta Z Z.heap "java/lang/String" "COMPACT_STRINGS" "Z" (.int p4)) (pr2 : ¬ (p4 = (0 : Int32))) (pr3 : Arv Z h0 a2 k9 .char (3 : Int32) [(.int p6), (.int p7), (.int p8)] (.int (0 : Int32))) (pr4 : ¬ ((255 : Int32) < p6)) (pr5 : (255 : Int32) < p7) (pr6 : Sta Z Z.heap "java/lang/StringUTF16" "$assertionsDisabled" "Z" (.int (1 : Int32))) (pr7 : Sta Z Z.heap "java/lang/StringUTF16" "HI_BYTE_SHIFT" "I" (.int (0 : Int32))) (pr8 : Sta Z Z.heap "java/lang/StringUTF16" "LO_BYTE_SHIFT" "I" (.int (8 : Int32))) (pr9 : (255 : Int32) < (nar .char (((((((p7 >>> ((0 : Int32) &&& 31)).toInt8.toInt32).toInt8.toInt32) &&& (255 : Int32)) <<< ((0 : Int32) &&& 31)) ||| (((((p7 >>> ((8 : Int32) &&& 31)).toInt8.toInt32).toInt8.toInt32) &&& (255 : Int32)) <<< ((8 : Int32) &&& 31))).toUInt32.toUInt16.toUInt32.toInt32))) (pr10 : Exa Z h0 a1 "java/lang/String") (pr11 : Fld Z h0 a1 "java/lang/String" "coder" "B" (.int (0 : Int32))) (pr12 : n0 ≤ a1) (pr13 : Fld Z h0 a1 "java/lang/String" "value" "[B" .null) :
    MetFree l mn3 (head1 (Jvm.Cond.code mn3 jdk_42_method_149_code 6 none :: ws) ({ frames := 4, cells := 2, slots := 9, locals := 57 } : Room)) (fun a U => a = #[(.ref a1), (.ref a2), (.int (0 : Int32)), (.int (3 : Int32)), .null] ∧ Z.Warmed39 U.vm ∧ U.heap = h0) (fun _ _ _ _ _ => True) (fun _ U o U' => ∃ v L, o = .returned v ∧ Q_rm3_5 Z a1 a2 p4 p6 p7 p8 k9 h0 n0 v U'.heap L ∧ FrameEnd U o U' L ({ frames := 4, cells := 2, slots := 9, locals := 57 } : Room).cells ({ frames := 4, cells := 2, slots := 9, locals := 57 } : Room).slots) := by
  refine MetFree.of_bodySF (plainFor_of_name pn_0) hisR ?_
  intro p e s m args below meth c s₁ Bd hml0 hP hK
  obtain ⟨rfl, hZ, hh⟩ := hP
  have hx := Bd.exec
  have hby := Bd.bytes
  have hml : c.maxLocals = 6 := hml0
  have hown : s.vm.findClass "java/lang/String" = some m.cls := findClass_of_methodNamed Bd.named
  have hnm := (name_of_methodNamed Bd.named Bd.method).1
  have X0 : Stand p l e ({ frames := 4, cells := 2, slots := 9, locals := 57 } : Room) s m #[(.ref a1), (.ref a2), (.int (0 : Int32)), (.int (3 : Int32)), .null] below meth c s₁ [] 0 0 := Stand.of_body Bd
  have e0 : s₁.heap = h0 := by rw [← hh, Bd.state]; rfl
  have N0 := Fr.nil n0
  have pre0 : ∀ t, SS p e below s₁ m 0 #[rv a1, rv a2, iv (0 : Int32), iv (3 : Int32), .val .null, .unset] [] t → Steps p.tables e below (s₁.setTop (entryFrame m #[(.ref a1), (.ref a2), (.int (0 : Int32)), (.int (3 : Int32)), .null] 6)) t := fun t k => castTop (ef_3_35 m a1 a2) k
  obtain ⟨T3, X3, e3, st3⟩ := initO X0 hx hZ hown (wd16 hw) (wd17 hw) (wd18 hw) e0 (g := (mkF m 1 #[rv a1, rv a2, iv (0 : Int32), iv (3 : Int32), .val .null, .unset] [(.ref a1)])) rfl (by rw [hml]; rfl) rfl (hb hby d3_1) (by decide) (W := 0) (by show 2 * 0 + _ ≤ _; exact Nat.le_of_eq rfl) (by decide)
  obtain ⟨T5, X5, e5, st5⟩ := getS2 X3 hx hZ hown (host := "") (Or.inl (wd19 hw)) Via.refl e3 (pr1.ext OL0.2) (g := (mkF m 27 #[rv a1, rv a2, iv (0 : Int32), iv (3 : Int32), .val .null, .unset] [])) rfl (hb hby d3_27)
  obtain ⟨_, _, ⟨T10, L10, k10, n10⟩, -, X10, ⟨Lc10, hQ10, l10, y10, z10⟩, st10⟩ := Jvm.LawKit.callS X5 hx (y := mn5) hown (mvT hZ (wd20 hw)) (mvT hZ (wd21 hw)) (mvT hZ (wd22 hw)) (mvT hZ (wd23 hw)) (by decide) (backOf (W := 0) (rm5_4 l Z a0 hw [] a2 p6 p7 p8 k9 h0 n0 OL0 pr3 pr4 pr5 pr6 pr7 pr8 pr9) hZ (wd23 hw) (wd22 hw) (by decide) (by decide)) (g := (mkF m 36 #[rv a1, rv a2, iv (0 : Int32), iv (3 : Int32), .val .null, .unset] [(.int (3 : Int32)), (.int (0 : Int32)), (.ref a2)])) rfl (by rw [hml]; rfl) (argsL := [(.ref a2), (.int (0 : Int32)), (.int (3 : Int32))]) (rest := []) (lenOf pd_17 rfl) rfl (by show 2 * 0 + _ ≤ _; exact Nat.le_of_eq rfl) (hb hby d3_36) (fun _ _ => ⟨rfl, e5, (by decide : 0 + 2 ≤ _), (by decide : 0 + 9 ≤ _)⟩)
  dsimp only [Pt.U, Pt.locs, Pt.cells, Pt.slots] at X10 l10 y10 z10 st10 hQ10
  subst l10 y10 z10
  obtain ⟨b10_0, kx10_0, rfl, Nq10, K10, u10_0, u10_1⟩ := hQ10
  have KK10 : Keep h0 T10.heap [a1] := (Keep.refl h0 [a1]).trans K10 all0
  have OL10 := OL0.keep K10 all0
  have g_b10_0 : n0 ≤ b10_0 := Nat.le_trans (Nat.le_trans (Nat.le_of_eq OL0.1.symm) OL0.2.1) u10_0
  have sz_b10_0 : h0.size ≤ b10_0 := Nat.le_trans (Keep.refl h0 [a1]).1 u10_0
  have N10 := Fr.app N0 Nq10
  obtain ⟨_, _, ⟨T11, L11, k11, n11⟩, -, X11, ⟨Lc11, hQ11, l11, y11, z11⟩, st11⟩ := Jvm.LawKit.callS X10 hx (y := mn7) hown (mvT hZ (wd28 hw)) (mvT hZ (wd29 hw)) (mvT hZ (wd22 hw)) (mvT hZ (wd30 hw)) (by decide) (backOf (W := 1) (rm7_2 l Z a0 hw [] b10_0 (((p6 >>> ((0 : Int32) &&& 31)).toInt8.toInt32).toInt8.toInt32) (((p6 >>> ((8 : Int32) &&& 31)).toInt8.toInt32).toInt8.toInt32) (((p7 >>> ((0 : Int32) &&& 31)).toInt8.toInt32).toInt8.toInt32) (((p7 >>> ((8 : Int32) &&& 31)).toInt8.toInt32).toInt8.toInt32) (((p8 >>> ((0 : Int32) &&& 31)).toInt8.toInt32).toInt8.toInt32) (((p8 >>> ((8 : Int32) &&& 31)).toInt8.toInt32).toInt8.toInt32) kx10_0 T10.heap n0 OL10 u10_1) hZ (wd30 hw) (wd22 hw) (by decide) (by decide)) (g := (mkF m 45 #[rv a1, rv a2, iv (0 : Int32), iv (3 : Int32), .val .null, rv b10_0] [(.int (3 : Int32)), (.ref b10_0), (.ref a1)])) rfl (by rw [hml]; rfl) (argsL := [(.ref b10_0), (.int (3 : Int32))]) (rest := [(.ref a1)]) (lenOf pd_19 rfl) rfl (by show 2 * 0 + _ ≤ _; exact Nat.le_of_eq rfl) (hb hby d3_45) (fun _ _ => ⟨rfl, rfl, (by decide : 2 + 0 ≤ _), (by decide : 9 + 0 ≤ _)⟩)
  dsimp only [Pt.U, Pt.locs, Pt.cells, Pt.slots] at X11 l11 y11 z11 st11 hQ11
  subst l11 y11 z11
  obtain ⟨rfl, Nq11, ec11⟩ := hQ11
  have N11 := Fr.app N10 Nq11
  have fc12 := (pr10.keep K10)
  have fc13 := (pr11.keep K10 nin0)
  obtain ⟨T14, h14, X14, e14, W14, st14⟩ := putFN X11 hx hZ hown (wd31 hw) Via.refl ec11 fc13 fc12 (Or.inr ⟨(wd32 hw), rfl, hnm⟩) (wd6 hw) (ty := .byte) (v' := (.int (1 : Int32))) (by decide) rfl rfl (g := (mkF m 48 #[rv a1, rv a2, iv (0 : Int32), iv (3 : Int32), .val .null, rv b10_0] [(.int (1 : Int32)), (.ref a1)])) rfl rfl (hb hby d3_48)
  have Fw14 := fc13.same W14
  have KK14 : Keep h0 h14 [a1] := KK10.wr W14 (Or.inl (List.mem_of_getElem? (i := 0) rfl))
  have OL14 := OL10.wr W14 pr12
  have N14 := Fr.snoc X14 N11 pr12
  have fc15 := (fc12.wr W14)
  have fc16 := ((pr13.keep K10 nin0).other W14 (Or.inr (slot_ne (Or.inr (wd34 hw)) (Or.inr (wd32 hw)) (by decide) (t := (.array .byte)) (t' := .byte) (by decide) (by decide))))
  obtain ⟨T17, h17, X17, e17, W17, st17⟩ := putF X14 hx hZ hown (host := "") (Or.inl (wd33 hw)) Via.refl e14 fc16 fc15 (Or.inr ⟨(wd34 hw), rfl, hnm⟩) (wd6 hw) (ty := (.array .byte)) (by decide) rfl rfl (g := (mkF m 54 #[rv a1, rv a2, iv (0 : Int32), iv (3 : Int32), .val .null, rv b10_0] [(.ref b10_0), (.ref a1)])) rfl rfl (hb hby d3_54)
  have Fw17 := fc16.same W17
  have KK17 : Keep h0 h17 [a1] := KK14.wr W17 (Or.inl (List.mem_of_getElem? (i := 0) rfl))
  have OL17 := OL14.wr W17 pr12
  have N17 := Fr.snoc X17 N14 pr12
  have fc18 := (Fw14.other W17 (Or.inr (slot_ne (Or.inr (wd32 hw)) (Or.inr (wd34 hw)) (by decide) (t := .byte) (t' := (.array .byte)) (by decide) (by decide))))
  have fc19 := ((u10_1.other W14 (Ne.symm (Nat.ne_of_lt (Nat.lt_of_lt_of_le pr13.lt sz_b10_0)))).other W17 (Ne.symm (Nat.ne_of_lt (Nat.lt_of_lt_of_le pr13.lt sz_b10_0))))
  obtain ⟨fs, hr, hrun, hended, hW, hsame⟩ := X17.leave (v := none) (fun _ => rfl)
  refine ⟨_, _, pre0 _ ?_, hrun, hended, _, _, rfl, ?_, ⟨_, rfl⟩, hW, hsame.mono (by decide) (by decide)⟩
  · show SS p e below s₁ m 0 #[rv a1, rv a2, iv (0 : Int32), iv (3 : Int32), .val .null, .unset] [] _
    refine XS.aloadN X0.here hx rfl (hb hby d3_0) rfl rfl ?_
    show SS p e below s₁ m 1 #[rv a1, rv a2, iv (0 : Int32), iv (3 : Int32), .val .null, .unset] [(.ref a1)] _
    refine st3 _ ?_
    show SS p e below T3 m 4 #[rv a1, rv a2, iv (0 : Int32), iv (3 : Int32), .val .null, .unset] [] _
    refine XS.iloadN X3.here hx rfl (hb hby d3_4) rfl ?_
    show SS p e below T3 m 5 #[rv a1, rv a2, iv (0 : Int32), iv (3 : Int32), .val .null, .unset] [(.int (3 : Int32))] _
    refine XS.ifYes X3.here hx rfl (pc0 := 5) (pc' := 27) rfl (hb hby d3_5) rfl ((if0 _ _).trans (feq (by decide : ¬ ((3 : Int32) = (0 : Int32)))).2) (by decide) (by decide) ?_
    show SS p e below T3 m 27 #[rv a1, rv a2, iv (0 : Int32), iv (3 : Int32), .val .null, .unset] [] _
    refine st5 _ ?_
    show SS p e below T5 m 30 #[rv a1, rv a2, iv (0 : Int32), iv (3 : Int32), .val .null, .unset] [(.int p4)] _
    refine XS.ifNo X5.here hx rfl (hb hby d3_30) rfl ((if0 _ _).trans (feq pr2).1) ?_
    show SS p e below T5 m 33 #[rv a1, rv a2, iv (0 : Int32), iv (3 : Int32), .val .null, .unset] [] _
    refine XS.aloadN X5.here hx rfl (hb hby d3_33) rfl rfl ?_
    refine XS.iloadN X5.here hx rfl (hb hby d3_34) rfl ?_
    refine XS.iloadN X5.here hx rfl (hb hby d3_35) rfl ?_
    show SS p e below T5 m 36 #[rv a1, rv a2, iv (0 : Int32), iv (3 : Int32), .val .null, .unset] [(.int (3 : Int32)), (.int (0 : Int32)), (.ref a2)] _
    refine st10 _ ?_
    show SS p e below T10 m 39 #[rv a1, rv a2, iv (0 : Int32), iv (3 : Int32), .val .null, .unset] [(.ref b10_0)] _
    refine XS.astore X10.here hx rfl (hb hby d3_39) rfl rfl (l' := #[rv a1, rv a2, iv (0 : Int32), iv (3 : Int32), .val .null, rv b10_0]) rfl ?_
    refine XS.aloadN X10.here hx rfl (hb hby d3_41) rfl rfl ?_
    refine XS.aload X10.here hx rfl (hb hby d3_42) rfl rfl ?_
    refine XS.iloadN X10.here hx rfl (hb hby d3_44) rfl ?_
    show SS p e below T10 m 45 #[rv a1, rv a2, iv (0 : Int32), iv (3 : Int32), .val .null, rv b10_0] [(.int (3 : Int32)), (.ref b10_0), (.ref a1)] _
    refine st11 _ ?_
    show SS p e below T11 m 48 #[rv a1, rv a2, iv (0 : Int32), iv (3 : Int32), .val .null, rv b10_0] [(.int (1 : Int32)), (.ref a1)] _
    refine st14 _ ?_
    show SS p e below T14 m 51 #[rv a1, rv a2, iv (0 : Int32), iv (3 : Int32), .val .null, rv b10_0] [] _
    refine XS.aloadN X14.here hx rfl (hb hby d3_51) rfl rfl ?_
    refine XS.aload X14.here hx rfl (hb hby d3_52) rfl rfl ?_
    show SS p e below T14 m 54 #[rv a1, rv a2, iv (0 : Int32), iv (3 : Int32), .val .null, rv b10_0] [(.ref b10_0), (.ref a1)] _
    refine st17 _ ?_
    show SS p e below T17 m 57 #[rv a1, rv a2, iv (0 : Int32), iv (3 : Int32), .val .null, rv b10_0] [] _
    exact X17.returnOut hx Bd.returns (hb hby d3_57) hr
  · show Q_rm3_5 Z a1 a2 p4 p6 p7 p8 k9 h0 n0 _ T17.heap _
    rw [e17]
    exact ⟨b10_0, kx10_0, rfl, N17, KK17, sz_b10_0, fc18, Fw17, fc19⟩
def Q_rm2_5 (Z : State) (a1 : Addr) (a2 : Addr) (p3 : Int32) (p4 : Int32) (p5 : Int32) (k6 : ClassId) (p8 : Int32) (h0 : Heap) (n0 : Nat) (v : Option Value) (h : Heap) (L : List Loc) : Prop := ∃ b9_0 : Addr, ∃ kx9_0 : ClassId, v = none ∧ Fr n0 L ∧ Keep h0 h [a1] ∧ h0.size ≤ b9_0 ∧ Fld Z h a1 "java/lang/String" "coder" "B" (.int (1 : Int32)) ∧ Fld Z h a1 "java/lang/String" "value" "[B" (.ref b9_0) ∧ Arv Z h b9_0 kx9_0 .byte (6 : Int32) [(.int (((p3 >>> ((0 : Int32) &&& 31)).toInt8.toInt32).toInt8.toInt32)), (.int (((p3 >>> ((8 : Int32) &&& 31)).toInt8.toInt32).toInt8.toInt32)), (.int (((p4 >>> ((0 : Int32) &&& 31)).toInt8.toInt32).toInt8.toInt32)), (.int (((p4 >>> ((8 : Int32) &&& 31)).toInt8.toInt32).toInt8.toInt32)), (.int (((p5 >>> ((0 : Int32) &&& 31)).toInt8.toInt32).toInt8.toInt32)), (.int (((p5 >>> ((8 : Int32) &&& 31)).toInt8.toInt32).toInt8.toInt32))] (.int (0 : Int32))
set_option maxRecDepth 65536 in
set_option maxHeartbeats 40000000 in
theorem rm2_5 (l : Launch) (Z : State) (a0 : Array Value) (hw : ∀ d ∈ tables_1, d.before a0 Z = true) (ws : List Jvm.Cond) (a1 : Addr) (a2 : Addr) (p3 : Int32) (p4 : Int32) (p5 : Int32) (k6 : ClassId) (p8 : Int32) (h0 : Heap) (n0 : Nat) (OL0 : Old Z n0 h0) (pr1 : Arv Z h0 a2 k6 .char (3 : Int32) [(.int p3), (.int p4), (.int p5)] (.int (0 : Int32))) (pr2 : Sta Z Z.heap "java/lang/String" "COMPACT_STRINGS" "Z" (.int p8)) (pr3 : ¬ (p8 = (0 : Int32))) (pr4 : ¬ ((255 : Int32) < p3)) (pr5 : (255 : Int32) < p4) (pr6 : Sta Z Z.heap "java/lang/StringUTF16" "$assertionsDisabled" "Z" (.int (1 : Int32))) (pr7 : Sta Z Z.heap "java/lang/StringUTF16" "HI_BYTE_SHIFT" "I" (.int (0 : Int32))) (pr8 : Sta Z Z.heap "java/lang/StringUTF16" "LO_BYTE_SHIFT" "I" (.int (8 : Int32))) (pr9 : (255 : Int32) < (nar .char (((((((p4 >>> ((0 : Int32) &&& 31)).toInt8.toInt32).toInt8.toInt32) &&& (255 : Int32)) <<< ((0 : Int32) &&& 31)) ||| (((((p4 >>> ((8 : Int32) &&& 31)).toInt8.toInt32).toInt8.toInt32) &&& (255 : Int32)) <<< ((8 : Int32) &&& 31))).toUInt32.toUInt16.toUInt32.toInt32))) (pr10 : Exa Z h0 a1 "java/lang/String") (pr11 : Fld Z h0 a1 "java/lang/String" "coder" "B" (.int (0 : Int32))) (pr12 : n0 ≤ a1) (pr13 : Fld Z h0 a1 "java/lang/String" "value" "[B" .null) :
    MetFree l mn2 (head1 (Jvm.Cond.code mn2 jdk_42_method_3_code 2 none :: ws) ({ frames := 5, cells := 2, slots := 9, locals := 74 } : Room)) (fun a U => a = #[(.ref a1), (.ref a2)] ∧ Z.Warmed39 U.vm ∧ U.heap = h0) (fun _ _ _ _ _ => True) (fun _ U o U' => ∃ v L, o = .returned v ∧ Q_rm2_5 Z a1 a2 p3 p4 p5 k6 p8 h0 n0 v U'.heap L ∧ FrameEnd U o U' L ({ frames := 5, cells := 2, slots := 9, locals := 74 } : Room).cells ({ frames := 5, cells := 2, slots := 9, locals := 74 } : Room).slots) := by
  refine MetFree.of_bodySF (plainFor_of_name pn_0) hisR ?_
  intro p e s m args below meth c s₁ Bd hml0 hP hK
  obtain ⟨rfl, hZ, hh⟩ := hP
  have hx := Bd.exec
  have hby := Bd.bytes
  have hml : c.maxLocals = 2 := hml0
  have hown : s.vm.findClass "java/lang/String" = some m.cls := findClass_of_methodNamed Bd.named
  have hnm := (name_of_methodNamed Bd.named Bd.method).1
  have X0 : Stand p l e ({ frames := 5, cells := 2, slots := 9, locals := 74 } : Room) s m #[(.ref a1), (.ref a2)] below meth c s₁ [] 0 0 := Stand.of_body Bd
  have e0 : s₁.heap = h0 := by rw [← hh, Bd.state]; rfl
  have N0 := Fr.nil n0
  have pre0 : ∀ t, SS p e below s₁ m 0 #[rv a1, rv a2] [] t → Steps p.tables e below (s₁.setTop (entryFrame m #[(.ref a1), (.ref a2)] 2)) t := fun t k => castTop (ef_2_1 m a1 a2) k
  obtain ⟨cl7, Ar7, -, Sz7, Nn7, -, -⟩ := id pr1
  obtain ⟨_, _, ⟨T9, L9, k9, n9⟩, -, X9, ⟨Lc9, hQ9, l9, y9, z9⟩, st9⟩ := X0.specialBack hx (y := mn3) rfl hown (mvT hZ (wd12 hw)) (mvT hZ (wd13 hw)) (mvT hZ (wd15 hw)) (by decide) (backOf (W := 0) (rm3_5 l Z a0 hw [] a1 a2 p8 p3 p4 p5 k6 h0 n0 OL0 pr2 pr3 pr1 pr4 pr5 pr6 pr7 pr8 pr9 pr10 pr11 pr12 pr13) hZ (wd15 hw) (wd7 hw) (by decide) (by decide)) (g := (mkF m 6 #[rv a1, rv a2] [.null, (.int (3 : Int32)), (.int (0 : Int32)), (.ref a2), (.ref a1)])) rfl (by rw [hml]; rfl) (Steps.refl _) (a := a1) (argsL := [(.ref a2), (.int (0 : Int32)), (.int (3 : Int32)), .null]) (rest := []) (lenOf pd_0 rfl) rfl (by show 2 * 0 + _ ≤ _; exact Nat.le_of_eq rfl) (hb hby d2_6) (fun _ _ => ⟨rfl, e0, (by decide : 0 + 2 ≤ _), (by decide : 0 + 9 ≤ _)⟩)
  dsimp only [Pt.U, Pt.locs, Pt.cells, Pt.slots] at X9 l9 y9 z9 st9 hQ9
  subst l9 y9 z9
  obtain ⟨b9_0, kx9_0, rfl, Nq9, K9, u9_0, u9_1, u9_2, u9_3⟩ := hQ9
  have KK9 : Keep h0 T9.heap [a1] := (Keep.refl h0 [a1]).trans K9 (allS (Or.inl (List.mem_of_getElem? (i := 0) rfl)) all0)
  have OL9 := OL0.keep K9 (allS pr12 all0)
  have g_b9_0 : n0 ≤ b9_0 := Nat.le_trans (Nat.le_trans (Nat.le_of_eq OL0.1.symm) OL0.2.1) u9_0
  have sz_b9_0 : h0.size ≤ b9_0 := Nat.le_trans (Keep.refl h0 [a1]).1 u9_0
  have N9 := Fr.app N0 Nq9
  obtain ⟨fs, hr, hrun, hended, hW, hsame⟩ := X9.leave (v := none) (fun _ => rfl)
  refine ⟨_, _, pre0 _ ?_, hrun, hended, _, _, rfl, ?_, ⟨_, rfl⟩, hW, hsame.mono (by decide) (by decide)⟩
  · show SS p e below s₁ m 0 #[rv a1, rv a2] [] _
    refine XS.aloadN X0.here hx rfl (hb hby d2_0) rfl rfl ?_
    refine XS.aloadN X0.here hx rfl (hb hby d2_1) rfl rfl ?_
    refine XS.iconst X0.here hx rfl (hb hby d2_2) ?_
    refine XS.aloadN X0.here hx rfl (hb hby d2_3) rfl rfl ?_
    show SS p e below s₁ m 4 #[rv a1, rv a2] [(.ref a2), (.int (0 : Int32)), (.ref a2), (.ref a1)] _
    refine X0.arraylength hx (by rw [e0]; exact Ar7.1) (State.isArrayOf_alike hZ.alike Ar7.2.1) (g := (mkF m 4 #[rv a1, rv a2] [(.ref a2), (.int (0 : Int32)), (.ref a2), (.ref a1)])) rfl rfl (hb hby d2_4) _ ?_
    rw [len_of Sz7 Nn7]
    show SS p e below s₁ m 5 #[rv a1, rv a2] [(.int (3 : Int32)), (.int (0 : Int32)), (.ref a2), (.ref a1)] _
    refine XS.aconstNull X0.here hx rfl (hb hby d2_5) ?_
    show SS p e below s₁ m 6 #[rv a1, rv a2] [.null, (.int (3 : Int32)), (.int (0 : Int32)), (.ref a2), (.ref a1)] _
    refine st9.trans ?_
    show SS p e below T9 m 9 #[rv a1, rv a2] [] _
    exact X9.returnOut hx Bd.returns (hb hby d2_9) hr
  · show Q_rm2_5 Z a1 a2 p3 p4 p5 k6 p8 h0 n0 _ T9.heap _
    exact ⟨b9_0, kx9_0, rfl, N9, KK9, sz_b9_0, u9_1, u9_2, u9_3⟩
def Q_rm1_7 (Z : State) (p1 : Int32) (p2 : Int32) (p3 : Int32) (p12 : Int32) (h0 : Heap) (n0 : Nat) (v : Option Value) (h : Heap) (L : List Loc) : Prop := ∃ b4 : Addr, ∃ b13_0 : Addr, ∃ kx13_0 : ClassId, v = some (.ref b4) ∧ Fr n0 L ∧ Keep h0 h [] ∧ h0.size ≤ b4 ∧ h0.size ≤ b13_0 ∧ b4 ≠ b13_0 ∧ Exa Z h b4 "java/lang/String" ∧ Fld Z h b4 "java/lang/String" "coder" "B" (.int (1 : Int32)) ∧ Fld Z h b4 "java/lang/String" "value" "[B" (.ref b13_0) ∧ Arv Z h b13_0 kx13_0 .byte (6 : Int32) [(.int ((((nar .char p1) >>> ((0 : Int32) &&& 31)).toInt8.toInt32).toInt8.toInt32)), (.int ((((nar .char p1) >>> ((8 : Int32) &&& 31)).toInt8.toInt32).toInt8.toInt32)), (.int ((((nar .char p2) >>> ((0 : Int32) &&& 31)).toInt8.toInt32).toInt8.toInt32)), (.int ((((nar .char p2) >>> ((8 : Int32) &&& 31)).toInt8.toInt32).toInt8.toInt32)), (.int ((((nar .char p3) >>> ((0 : Int32) &&& 31)).toInt8.toInt32).toInt8.toInt32)), (.int ((((nar .char p3) >>> ((8 : Int32) &&& 31)).toInt8.toInt32).toInt8.toInt32))] (.int (0 : Int32))
set_option maxRecDepth 65536 in
set_option maxHeartbeats 40000000 in
theorem rm1_7 (l : Launch) (Z : State) (a0 : Array Value) (hw : ∀ d ∈ tables_1, d.before a0 Z = true) (ws : List Jvm.Cond) (p1 : Int32) (p2 : Int32) (p3 : Int32) (p12 : Int32) (h0 : Heap) (n0 : Nat) (OL0 : Old Z n0 h0) (pr1 : Sta Z Z.heap "java/lang/String" "COMPACT_STRINGS" "Z" (.int p12)) (pr2 : ¬ (p12 = (0 : Int32))) (pr3 : ¬ ((255 : Int32) < (nar .char p1))) (pr4 : (255 : Int32) < (nar .char p2)) (pr5 : Sta Z Z.heap "java/lang/StringUTF16" "$assertionsDisabled" "Z" (.int (1 : Int32))) (pr6 : Sta Z Z.heap "java/lang/StringUTF16" "HI_BYTE_SHIFT" "I" (.int (0 : Int32))) (pr7 : Sta Z Z.heap "java/lang/StringUTF16" "LO_BYTE_SHIFT" "I" (.int (8 : Int32))) (pr8 : (255 : Int32) < (nar .char ((((((((nar .char p2) >>> ((0 : Int32) &&& 31)).toInt8.toInt32).toInt8.toInt32) &&& (255 : Int32)) <<< ((0 : Int32) &&& 31)) ||| ((((((nar .char p2) >>> ((8 : Int32) &&& 31)).toInt8.toInt32).toInt8.toInt32) &&& (255 : Int32)) <<< ((8 : Int32) &&& 31))).toUInt32.toUInt16.toUInt32.toInt32))) :
    MetFree l mn1 (head1 (Jvm.Cond.code mn1 method_2_code 4 (some (.object "java/lang/String")) :: ws) ({ frames := 6, cells := 4, slots := 16, locals := 88 } : Room)) (fun a U => a = #[(.int (3 : Int32)), (.int p1), (.int p2), (.int p3)] ∧ Z.Warmed39 U.vm ∧ U.heap = h0) (fun _ _ _ _ _ => True) (fun _ U o U' => ∃ v L, o = .returned v ∧ Q_rm1_7 Z p1 p2 p3 p12 h0 n0 v U'.heap L ∧ FrameEnd U o U' L ({ frames := 6, cells := 4, slots := 16, locals := 88 } : Room).cells ({ frames := 6, cells := 4, slots := 16, locals := 88 } : Room).slots) := by
  refine MetFree.of_bodySF (plainFor_of_name pn_1) hisR ?_
  intro p e s m args below meth c s₁ Bd hml0 hP hK
  obtain ⟨rfl, hZ, hh⟩ := hP
  have hx := Bd.exec
  have hby := Bd.bytes
  have hml : c.maxLocals = 4 := hml0
  have hown : s.vm.findClass "com/example/aeroslice/aeroslice/SrsDefaultsOfPinLaw" = some m.cls := findClass_of_methodNamed Bd.named
  have hnm := (name_of_methodNamed Bd.named Bd.method).1
  have X0 : Stand p l e ({ frames := 6, cells := 4, slots := 16, locals := 88 } : Room) s m #[(.int (3 : Int32)), (.int p1), (.int p2), (.int p3)] below meth c s₁ [] 0 0 := Stand.of_body Bd
  have e0 : s₁.heap = h0 := by rw [← hh, Bd.state]; rfl
  have N0 := Fr.nil n0
  have pre0 : ∀ t, SS p e below s₁ m 0 #[iv (3 : Int32), iv p1, iv p2, iv p3] [] t → Steps p.tables e below (s₁.setTop (entryFrame m #[(.int (3 : Int32)), (.int p1), (.int p2), (.int p3)] 4)) t := fun t k => castTop (ef_1_36 m p1 p2 p3) k
  obtain ⟨T4, h4, X4, e4, E4, A4, D4, -, st4⟩ := newO X0 hx hZ hown (wd5 hw) (wd6 hw) (wd7 hw) e0 (g := (mkF m 49 #[iv (3 : Int32), iv p1, iv p2, iv p3] [])) rfl (hb hby d1_49) (by decide) (by decide)
  obtain ⟨b4, g4⟩ : ∃ z, z = h0.size := ⟨_, rfl⟩
  rw [← g4] at A4 D4 st4
  have g_b4 : n0 ≤ b4 := (Nat.le_trans (Nat.le_trans (Nat.le_of_eq OL0.1.symm) OL0.2.1) (Nat.le_of_eq g4.symm))
  have sz_b4 : h0.size ≤ b4 := (Nat.le_trans (Keep.refl h0 []).1 (Nat.le_of_eq g4.symm))
  have KK4 : Keep h0 h4 [] := (Keep.refl h0 []).ext E4
  have OL4 := OL0.ext E4
  have F_coder_b4 : Fld Z h4 b4 "java/lang/String" "coder" "B" (.int (0 : Int32)) := D4 (Or.inr (wd32 hw)) (ty := .byte) (by decide)
  have F_value_b4 : Fld Z h4 b4 "java/lang/String" "value" "[B" .null := D4 (Or.inr (wd34 hw)) (ty := (.array .byte)) (by decide)
  obtain ⟨T5, h5, k5, X5, e5, E5, A5, st5⟩ := newP (aty := .char) X4 hx hZ (wd8 hw) e4 (g := (mkF m 54 #[iv (3 : Int32), iv p1, iv p2, iv p3] [(.int (3 : Int32)), (.ref b4), (.ref b4)])) rfl (hb hby d1_54) rfl (by decide) (cap := 3) (by decide) (by decide) (by decide) (by decide)
  obtain ⟨b5, g5⟩ : ∃ z, z = h4.size := ⟨_, rfl⟩
  rw [← g5] at A5 st5
  have V5 : Arv Z h5 b5 k5 .char (3 : Int32) [(.int (0 : Int32)), (.int (0 : Int32)), (.int (0 : Int32))] (.int (0 : Int32)) := (Arv.new A5 (by decide)).pad (pad_rep [] (.int (0 : Int32)) 3)
  have g_b5 : n0 ≤ b5 := (Nat.le_trans (Nat.le_trans (Nat.le_of_eq OL4.1.symm) OL4.2.1) (Nat.le_of_eq g5.symm))
  have sz_b5 : h0.size ≤ b5 := (Nat.le_trans KK4.1 (Nat.le_of_eq g5.symm))
  have KK5 : Keep h0 h5 [] := KK4.ext E5
  have OL5 := OL4.ext E5
  obtain ⟨cl6, Ar6, q6, S6, M6, Hs6, G6⟩ := id V5
  have hin6 : ¬ ((0 : Int32) < 0 ∨ cl6.slots.size ≤ ((0 : Int32)).toNatClampNeg) := inb_of S6 ⟨by decide, by decide⟩
  obtain ⟨T7, h7, X7, e7, W7, st7⟩ := stC X5 hx hZ e5 Ar6 (j := (0 : Int32)) hin6 (g := (mkF m 59 #[iv (3 : Int32), iv p1, iv p2, iv p3] [(.int p1), (.int (0 : Int32)), (.ref b5), (.ref b5), (.ref b4), (.ref b4)])) rfl rfl (hb hby d1_59)
  have V7 : Arv Z h7 b5 k5 .char (3 : Int32) [(.int (nar .char p1)), (.int (0 : Int32)), (.int (0 : Int32))] (.int (0 : Int32)) := Arv.set Ar6 q6 S6 M6 Hs6 G6 (fits_nar_char _) W7 0 rfl (Nat.le_of_ble_eq_true rfl)
  have KK7 : Keep h0 h7 [] := KK5.wr W7 (Or.inr sz_b5)
  have OL7 := OL5.wr W7 g_b5
  have N7 := Fr.snoc X7 N0 g_b5
  obtain ⟨cl8, Ar8, q8, S8, M8, Hs8, G8⟩ := id V7
  have hin8 : ¬ ((1 : Int32) < 0 ∨ cl8.slots.size ≤ ((1 : Int32)).toNatClampNeg) := inb_of S8 ⟨by decide, by decide⟩
  obtain ⟨T9, h9, X9, e9, W9, st9⟩ := stC X7 hx hZ e7 Ar8 (j := (1 : Int32)) hin8 (g := (mkF m 63 #[iv (3 : Int32), iv p1, iv p2, iv p3] [(.int p2), (.int (1 : Int32)), (.ref b5), (.ref b5), (.ref b4), (.ref b4)])) rfl rfl (hb hby d1_63)
  have V9 : Arv Z h9 b5 k5 .char (3 : Int32) [(.int (nar .char p1)), (.int (nar .char p2)), (.int (0 : Int32))] (.int (0 : Int32)) := Arv.set Ar8 q8 S8 M8 Hs8 G8 (fits_nar_char _) W9 1 rfl (Nat.le_of_ble_eq_true rfl)
  have KK9 : Keep h0 h9 [] := KK7.wr W9 (Or.inr sz_b5)
  have OL9 := OL7.wr W9 g_b5
  have N9 := Fr.snoc X9 N7 g_b5
  obtain ⟨cl10, Ar10, q10, S10, M10, Hs10, G10⟩ := id V9
  have hin10 : ¬ ((2 : Int32) < 0 ∨ cl10.slots.size ≤ ((2 : Int32)).toNatClampNeg) := inb_of S10 ⟨by decide, by decide⟩
  obtain ⟨T11, h11, X11, e11, W11, st11⟩ := stC X9 hx hZ e9 Ar10 (j := (2 : Int32)) hin10 (g := (mkF m 67 #[iv (3 : Int32), iv p1, iv p2, iv p3] [(.int p3), (.int (2 : Int32)), (.ref b5), (.ref b5), (.ref b4), (.ref b4)])) rfl rfl (hb hby d1_67)
  have V11 : Arv Z h11 b5 k5 .char (3 : Int32) [(.int (nar .char p1)), (.int (nar .char p2)), (.int (nar .char p3))] (.int (0 : Int32)) := Arv.set Ar10 q10 S10 M10 Hs10 G10 (fits_nar_char _) W11 2 rfl (Nat.le_of_ble_eq_true rfl)
  have KK11 : Keep h0 h11 [] := KK9.wr W11 (Or.inr sz_b5)
  have OL11 := OL9.wr W11 g_b5
  have N11 := Fr.snoc X11 N9 g_b5
  have fc14 := ((((A4.ext E5).wr W7).wr W9).wr W11)
  have fc15 := ((((F_coder_b4.ext E5).other W7 (Or.inl (Nat.ne_of_lt (Nat.lt_of_lt_of_le F_value_b4.lt (Nat.le_of_eq g5.symm))))).other W9 (Or.inl (Nat.ne_of_lt (Nat.lt_of_lt_of_le F_value_b4.lt (Nat.le_of_eq g5.symm))))).other W11 (Or.inl (Nat.ne_of_lt (Nat.lt_of_lt_of_le F_value_b4.lt (Nat.le_of_eq g5.symm)))))
  have fc16 := ((((F_value_b4.ext E5).other W7 (Or.inl (Nat.ne_of_lt (Nat.lt_of_lt_of_le F_value_b4.lt (Nat.le_of_eq g5.symm))))).other W9 (Or.inl (Nat.ne_of_lt (Nat.lt_of_lt_of_le F_value_b4.lt (Nat.le_of_eq g5.symm))))).other W11 (Or.inl (Nat.ne_of_lt (Nat.lt_of_lt_of_le F_value_b4.lt (Nat.le_of_eq g5.symm)))))
  obtain ⟨_, _, ⟨T13, L13, k13, n13⟩, -, X13, ⟨Lc13, hQ13, l13, y13, z13⟩, st13⟩ := X11.specialBack hx (y := mn2) rfl hown (mvT hZ (wd9 hw)) (mvT hZ (wd10 hw)) (mvT hZ (wd11 hw)) (by decide) (backOf (W := 1) (rm2_5 l Z a0 hw [] b4 b5 (nar .char p1) (nar .char p2) (nar .char p3) k5 p12 h11 n0 OL11 V11 pr1 pr2 pr3 pr4 pr5 pr6 pr7 pr8 fc14 fc15 g_b4 fc16) hZ (wd11 hw) (wd7 hw) (by decide) (by decide)) (g := (mkF m 68 #[iv (3 : Int32), iv p1, iv p2, iv p3] [(.ref b5), (.ref b4), (.ref b4)])) rfl (by rw [hml]; rfl) (Steps.refl _) (a := b4) (argsL := [(.ref b5)]) (rest := [(.ref b4)]) (lenOf pd_1 rfl) rfl (by show 2 * 0 + _ ≤ _; exact Nat.le_of_eq rfl) (hb hby d1_68) (fun _ _ => ⟨rfl, e11, (by decide : 2 + 2 ≤ _), (by decide : 7 + 9 ≤ _)⟩)
  dsimp only [Pt.U, Pt.locs, Pt.cells, Pt.slots] at X13 l13 y13 z13 st13 hQ13
  subst l13 y13 z13
  obtain ⟨b13_0, kx13_0, rfl, Nq13, K13, u13_0, u13_1, u13_2, u13_3⟩ := hQ13
  have KK13 : Keep h0 T13.heap [] := KK11.trans K13 (allS (Or.inr sz_b4) all0)
  have OL13 := OL11.keep K13 (allS g_b4 all0)
  have g_b13_0 : n0 ≤ b13_0 := Nat.le_trans (Nat.le_trans (Nat.le_of_eq OL11.1.symm) OL11.2.1) u13_0
  have sz_b13_0 : h0.size ≤ b13_0 := Nat.le_trans KK11.1 u13_0
  have N13 := Fr.app N11 Nq13
  have fc17 := (fc14.keep K13)
  obtain ⟨fs, hr, hrun, hended, hW, hsame⟩ := X13.leave (v := some (.ref b4)) (fun h => by rw [Bd.returns] at h; cases h)
  refine ⟨_, _, pre0 _ ?_, hrun, hended, _, _, rfl, ?_, ⟨_, rfl⟩, hW, hsame.mono (by decide) (by decide)⟩
  · show SS p e below s₁ m 0 #[iv (3 : Int32), iv p1, iv p2, iv p3] [] _
    refine XS.iloadN X0.here hx rfl (hb hby d1_0) rfl ?_
    show SS p e below s₁ m 1 #[iv (3 : Int32), iv p1, iv p2, iv p3] [(.int (3 : Int32))] _
    refine XS.ifYes X0.here hx rfl (pc0 := 1) (pc' := 15) rfl (hb hby d1_1) rfl ((if0 _ _).trans (feq (by decide : ¬ ((3 : Int32) = (0 : Int32)))).2) (by decide) (by decide) ?_
    show SS p e below s₁ m 15 #[iv (3 : Int32), iv p1, iv p2, iv p3] [] _
    refine XS.iloadN X0.here hx rfl (hb hby d1_15) rfl ?_
    refine XS.iconst X0.here hx rfl (hb hby d1_16) ?_
    show SS p e below s₁ m 17 #[iv (3 : Int32), iv p1, iv p2, iv p3] [(.int (1 : Int32)), (.int (3 : Int32))] _
    refine XS.icmpYes X0.here hx rfl (pc0 := 17) (pc' := 25) rfl (hb hby d1_17) rfl (feq (by decide : ¬ ((3 : Int32) = (1 : Int32)))).2 (by decide) (by decide) ?_
    show SS p e below s₁ m 25 #[iv (3 : Int32), iv p1, iv p2, iv p3] [] _
    refine XS.iloadN X0.here hx rfl (hb hby d1_25) rfl ?_
    refine XS.iconst X0.here hx rfl (hb hby d1_26) ?_
    show SS p e below s₁ m 27 #[iv (3 : Int32), iv p1, iv p2, iv p3] [(.int (2 : Int32)), (.int (3 : Int32))] _
    refine XS.icmpYes X0.here hx rfl (pc0 := 27) (pc' := 49) rfl (hb hby d1_27) rfl (feq (by decide : ¬ ((3 : Int32) = (2 : Int32)))).2 (by decide) (by decide) ?_
    show SS p e below s₁ m 49 #[iv (3 : Int32), iv p1, iv p2, iv p3] [] _
    refine st4 _ ?_
    show SS p e below T4 m 52 #[iv (3 : Int32), iv p1, iv p2, iv p3] [(.ref b4)] _
    refine XS.dup X4.here hx rfl (hb hby d1_52) rfl rfl ?_
    refine XS.iconst X4.here hx rfl (hb hby d1_53) ?_
    show SS p e below T4 m 54 #[iv (3 : Int32), iv p1, iv p2, iv p3] [(.int (3 : Int32)), (.ref b4), (.ref b4)] _
    refine st5 _ ?_
    show SS p e below T5 m 56 #[iv (3 : Int32), iv p1, iv p2, iv p3] [(.ref b5), (.ref b4), (.ref b4)] _
    refine XS.dup X5.here hx rfl (hb hby d1_56) rfl rfl ?_
    refine XS.iconst X5.here hx rfl (hb hby d1_57) ?_
    refine XS.iloadN X5.here hx rfl (hb hby d1_58) rfl ?_
    show SS p e below T5 m 59 #[iv (3 : Int32), iv p1, iv p2, iv p3] [(.int p1), (.int (0 : Int32)), (.ref b5), (.ref b5), (.ref b4), (.ref b4)] _
    refine st7 _ ?_
    show SS p e below T7 m 60 #[iv (3 : Int32), iv p1, iv p2, iv p3] [(.ref b5), (.ref b4), (.ref b4)] _
    refine XS.dup X7.here hx rfl (hb hby d1_60) rfl rfl ?_
    refine XS.iconst X7.here hx rfl (hb hby d1_61) ?_
    refine XS.iloadN X7.here hx rfl (hb hby d1_62) rfl ?_
    show SS p e below T7 m 63 #[iv (3 : Int32), iv p1, iv p2, iv p3] [(.int p2), (.int (1 : Int32)), (.ref b5), (.ref b5), (.ref b4), (.ref b4)] _
    refine st9 _ ?_
    show SS p e below T9 m 64 #[iv (3 : Int32), iv p1, iv p2, iv p3] [(.ref b5), (.ref b4), (.ref b4)] _
    refine XS.dup X9.here hx rfl (hb hby d1_64) rfl rfl ?_
    refine XS.iconst X9.here hx rfl (hb hby d1_65) ?_
    refine XS.iloadN X9.here hx rfl (hb hby d1_66) rfl ?_
    show SS p e below T9 m 67 #[iv (3 : Int32), iv p1, iv p2, iv p3] [(.int p3), (.int (2 : Int32)), (.ref b5), (.ref b5), (.ref b4), (.ref b4)] _
    refine st11 _ ?_
    show SS p e below T11 m 68 #[iv (3 : Int32), iv p1, iv p2, iv p3] [(.ref b5), (.ref b4), (.ref b4)] _
    refine st13.trans ?_
    show SS p e below T13 m 71 #[iv (3 : Int32), iv p1, iv p2, iv p3] [(.ref b4)] _
    jvm_step X13.here [X13.here.top, hx, (hb hby d1_71), X13.method', Bd.returns, Value.isRef, FieldType.isReference]
    first | (intro acts; rw [hr _ acts rfl rfl rfl]) | rw [hr _ _ rfl rfl rfl]
    exact Steps.refl _
  · show Q_rm1_7 Z p1 p2 p3 p12 h0 n0 _ T13.heap _
    exact ⟨b4, b13_0, kx13_0, rfl, N13, KK13, sz_b4, sz_b13_0, (Nat.ne_of_lt (Nat.lt_of_lt_of_le (Nat.lt_of_lt_of_le (Nat.lt_of_lt_of_le (Nat.lt_of_lt_of_le (Nat.lt_of_lt_of_le F_value_b4.lt E5.1) (Nat.le_of_eq W7.size.symm)) (Nat.le_of_eq W9.size.symm)) (Nat.le_of_eq W11.size.symm)) u13_0)), fc17, u13_1, u13_2, u13_3⟩
def Q_rm6_5 (Z : State) (a1 : Addr) (a2 : Addr) (p3 : Int32) (p4 : Int32) (p5 : Int32) (k6 : ClassId) (k8 : ClassId) (h0 : Heap) (n0 : Nat) (v : Option Value) (h : Heap) (L : List Loc) : Prop := v = some (.int (2 : Int32)) ∧ Fr n0 L ∧ Keep h0 h [a2] ∧ Arv Z h a2 k8 .byte (3 : Int32) [(.int ((p3.toInt8.toInt32).toInt8.toInt32)), (.int ((p4.toInt8.toInt32).toInt8.toInt32)), (.int (0 : Int32))] (.int (0 : Int32))
set_option maxRecDepth 65536 in
set_option maxHeartbeats 40000000 in
theorem rm6_5 (l : Launch) (Z : State) (a0 : Array Value) (hw : ∀ d ∈ tables_1, d.before a0 Z = true) (ws : List Jvm.Cond) (a1 : Addr) (a2 : Addr) (p3 : Int32) (p4 : Int32) (p5 : Int32) (k6 : ClassId) (k8 : ClassId) (h0 : Heap) (n0 : Nat) (OL0 : Old Z n0 h0) (pr1 : Arv Z h0 a1 k6 .char (3 : Int32) [(.int p3), (.int p4), (.int p5)] (.int (0 : Int32))) (pr2 : ¬ ((255 : Int32) < p3)) (pr3 : Arv Z h0 a2 k8 .byte (3 : Int32) [(.int (0 : Int32)), (.int (0 : Int32)), (.int (0 : Int32))] (.int (0 : Int32))) (pr4 : n0 ≤ a2) (pr5 : a1 ≠ a2) (pr6 : ¬ ((255 : Int32) < p4)) (pr7 : (255 : Int32) < p5) :
    MetFree l mn6 (head1 (Jvm.Cond.code mn6 jdk_52_method_21_code 7 (some .int) :: ws) ({ frames := 0, cells := 0, slots := 0, locals := 0 } : Room)) (fun a U => a = #[(.ref a1), (.int (0 : Int32)), (.ref a2), (.int (0 : Int32)), (.int (3 : Int32))] ∧ Z.Warmed39 U.vm ∧ U.heap = h0) (fun _ _ _ _ _ => True) (fun _ U o U' => ∃ v L, o = .returned v ∧ Q_rm6_5 Z a1 a2 p3 p4 p5 k6 k8 h0 n0 v U'.heap L ∧ FrameEnd U o U' L ({ frames := 0, cells := 0, slots := 0, locals := 0 } : Room).cells ({ frames := 0, cells := 0, slots := 0, locals := 0 } : Room).slots) := by
  refine MetFree.of_bodySF (plainFor_of_name pn_6) hisR ?_
  intro p e s m args below meth c s₁ Bd hml0 hP hK
  obtain ⟨rfl, hZ, hh⟩ := hP
  have hx := Bd.exec
  have hby := Bd.bytes
  have hml : c.maxLocals = 7 := hml0
  have hown : s.vm.findClass "java/lang/StringUTF16" = some m.cls := findClass_of_methodNamed Bd.named
  have hnm := (name_of_methodNamed Bd.named Bd.method).1
  have X0 : Stand p l e ({ frames := 0, cells := 0, slots := 0, locals := 0 } : Room) s m #[(.ref a1), (.int (0 : Int32)), (.ref a2), (.int (0 : Int32)), (.int (3 : Int32))] below meth c s₁ [] 0 0 := Stand.of_body Bd
  have e0 : s₁.heap = h0 := by rw [← hh, Bd.state]; rfl
  have N0 := Fr.nil n0
  have pre0 : ∀ t, SS p e below s₁ m 0 #[rv a1, iv (0 : Int32), rv a2, iv (0 : Int32), iv (3 : Int32), .unset, .unset] [] t → Steps p.tables e below (s₁.setTop (entryFrame m #[(.ref a1), (.int (0 : Int32)), (.ref a2), (.int (0 : Int32)), (.int (3 : Int32))] 7)) t := fun t k => castTop (ef_6_28 m a1 a2) k
  obtain ⟨cl7, Ar7, -, S7, -, Hs7, -⟩ := id pr1
  have hin7 : ¬ ((0 : Int32) < 0 ∨ cl7.slots.size ≤ ((0 : Int32)).toNatClampNeg) := inb_of S7 ⟨by decide, by decide⟩
  have hat7 : cl7.slots[((0 : Int32)).toNatClampNeg]? = some (.int p3) := Hs7.at hin7 rfl
  obtain ⟨cl9, Ar9, q9, S9, M9, Hs9, G9⟩ := id pr3
  have hin9 : ¬ ((0 : Int32) < 0 ∨ cl9.slots.size ≤ ((0 : Int32)).toNatClampNeg) := inb_of S9 ⟨by decide, by decide⟩
  obtain ⟨T10, h10, X10, e10, W10, st10⟩ := stB X0 hx hZ e0 Ar9 (j := (0 : Int32)) hin9 (g := (mkF m 31 #[rv a1, iv (0 : Int32), rv a2, iv (0 : Int32), iv (3 : Int32), iv (0 : Int32), iv p3] [(.int (p3.toInt8.toInt32)), (.int (0 : Int32)), (.ref a2)])) rfl rfl (hb hby d6_31)
  have V10 : Arv Z h10 a2 k8 .byte (3 : Int32) [(.int ((p3.toInt8.toInt32).toInt8.toInt32)), (.int (0 : Int32)), (.int (0 : Int32))] (.int (0 : Int32)) := Arv.set Ar9 q9 S9 M9 Hs9 G9 (fits_nar_byte _) W10 0 rfl (Nat.le_of_ble_eq_true rfl)
  have KK10 : Keep h0 h10 [a2] := (Keep.refl h0 [a2]).wr W10 (Or.inl (List.mem_of_getElem? (i := 0) rfl))
  have OL10 := OL0.wr W10 pr4
  have N10 := Fr.snoc X10 N0 pr4
  have fc11 := (pr1.other W10 pr5)
  obtain ⟨cl12, Ar12, -, S12, -, Hs12, -⟩ := id fc11
  have hin12 : ¬ ((1 : Int32) < 0 ∨ cl12.slots.size ≤ ((1 : Int32)).toNatClampNeg) := inb_of S12 ⟨by decide, by decide⟩
  have hat12 : cl12.slots[((1 : Int32)).toNatClampNeg]? = some (.int p4) := Hs12.at hin12 rfl
  obtain ⟨cl13, Ar13, q13, S13, M13, Hs13, G13⟩ := id V10
  have hin13 : ¬ ((1 : Int32) < 0 ∨ cl13.slots.size ≤ ((1 : Int32)).toNatClampNeg) := inb_of S13 ⟨by decide, by decide⟩
  obtain ⟨T14, h14, X14, e14, W14, st14⟩ := stB X10 hx hZ e10 Ar13 (j := (1 : Int32)) hin13 (g := (mkF m 31 #[rv a1, iv (1 : Int32), rv a2, iv (1 : Int32), iv (3 : Int32), iv (1 : Int32), iv p4] [(.int (p4.toInt8.toInt32)), (.int (1 : Int32)), (.ref a2)])) rfl rfl (hb hby d6_31)
  have V14 : Arv Z h14 a2 k8 .byte (3 : Int32) [(.int ((p3.toInt8.toInt32).toInt8.toInt32)), (.int ((p4.toInt8.toInt32).toInt8.toInt32)), (.int (0 : Int32))] (.int (0 : Int32)) := Arv.set Ar13 q13 S13 M13 Hs13 G13 (fits_nar_byte _) W14 1 rfl (Nat.le_of_ble_eq_true rfl)
  have KK14 : Keep h0 h14 [a2] := KK10.wr W14 (Or.inl (List.mem_of_getElem? (i := 0) rfl))
  have OL14 := OL10.wr W14 pr4
  have N14 := Fr.snoc X14 N10 pr4
  have fc15 := (fc11.other W14 pr5)
  obtain ⟨cl16, Ar16, -, S16, -, Hs16, -⟩ := id fc15
  have hin16 : ¬ ((2 : Int32) < 0 ∨ cl16.slots.size ≤ ((2 : Int32)).toNatClampNeg) := inb_of S16 ⟨by decide, by decide⟩
  have hat16 : cl16.slots[((2 : Int32)).toNatClampNeg]? = some (.int p5) := Hs16.at hin16 rfl
  obtain ⟨fs, hr, hrun, hended, hW, hsame⟩ := X14.leave (v := some (.int (2 : Int32))) (fun h => by rw [Bd.returns] at h; cases h)
  refine ⟨_, _, pre0 _ ?_, hrun, hended, _, _, rfl, ?_, ⟨_, rfl⟩, hW, hsame.mono (by decide) (by decide)⟩
  · show SS p e below s₁ m 0 #[rv a1, iv (0 : Int32), rv a2, iv (0 : Int32), iv (3 : Int32), .unset, .unset] [] _
    refine XS.iconst X0.here hx rfl (hb hby d6_0) ?_
    refine XS.istore X0.here hx rfl (hb hby d6_1) rfl (l' := #[rv a1, iv (0 : Int32), rv a2, iv (0 : Int32), iv (3 : Int32), iv (0 : Int32), .unset]) rfl ?_
    refine XS.iload X0.here hx rfl (hb hby d6_3) rfl ?_
    refine XS.iload X0.here hx rfl (hb hby d6_5) rfl ?_
    show SS p e below s₁ m 7 #[rv a1, iv (0 : Int32), rv a2, iv (0 : Int32), iv (3 : Int32), iv (0 : Int32), .unset] [(.int (3 : Int32)), (.int (0 : Int32))] _
    refine XS.icmpNo X0.here hx rfl (hb hby d6_7) rfl (tlt (by decide : (0 : Int32) < (3 : Int32))).2.1 ?_
    show SS p e below s₁ m 10 #[rv a1, iv (0 : Int32), rv a2, iv (0 : Int32), iv (3 : Int32), iv (0 : Int32), .unset] [] _
    refine XS.aloadN X0.here hx rfl (hb hby d6_10) rfl rfl ?_
    refine XS.iloadN X0.here hx rfl (hb hby d6_11) rfl ?_
    show SS p e below s₁ m 12 #[rv a1, iv (0 : Int32), rv a2, iv (0 : Int32), iv (3 : Int32), iv (0 : Int32), .unset] [(.int (0 : Int32)), (.ref a1)] _
    refine X0.caload hx (j := (0 : Int32)) (v := (.int p3)) (by rw [e0]; exact Ar7.1) (State.isArrayOf_alike hZ.alike Ar7.2.1) Ar7.2.2 hin7 hat7 (g := (mkF m 12 #[rv a1, iv (0 : Int32), rv a2, iv (0 : Int32), iv (3 : Int32), iv (0 : Int32), .unset] [(.int (0 : Int32)), (.ref a1)])) rfl rfl (hb hby d6_12) _ ?_
    show SS p e below s₁ m 13 #[rv a1, iv (0 : Int32), rv a2, iv (0 : Int32), iv (3 : Int32), iv (0 : Int32), .unset] [(.int p3)] _
    refine XS.istore X0.here hx rfl (hb hby d6_13) rfl (l' := #[rv a1, iv (0 : Int32), rv a2, iv (0 : Int32), iv (3 : Int32), iv (0 : Int32), iv p3]) rfl ?_
    refine XS.iload X0.here hx rfl (hb hby d6_15) rfl ?_
    refine XS.sipush X0.here hx rfl (hb hby d6_17) ?_
    show SS p e below s₁ m 20 #[rv a1, iv (0 : Int32), rv a2, iv (0 : Int32), iv (3 : Int32), iv (0 : Int32), iv p3] [(.int (255 : Int32)), (.int p3)] _
    refine XS.icmpYes X0.here hx rfl (pc0 := 20) (pc' := 26) rfl (hb hby d6_20) rfl (flt pr2).2.2.2 (by decide) (by decide) ?_
    show SS p e below s₁ m 26 #[rv a1, iv (0 : Int32), rv a2, iv (0 : Int32), iv (3 : Int32), iv (0 : Int32), iv p3] [] _
    refine XS.aloadN X0.here hx rfl (hb hby d6_26) rfl rfl ?_
    refine XS.iloadN X0.here hx rfl (hb hby d6_27) rfl ?_
    refine XS.iload X0.here hx rfl (hb hby d6_28) rfl ?_
    show SS p e below s₁ m 30 #[rv a1, iv (0 : Int32), rv a2, iv (0 : Int32), iv (3 : Int32), iv (0 : Int32), iv p3] [(.int p3), (.int (0 : Int32)), (.ref a2)] _
    refine XS.i2b X0.here hx rfl (hb hby d6_30) rfl ?_
    show SS p e below s₁ m 31 #[rv a1, iv (0 : Int32), rv a2, iv (0 : Int32), iv (3 : Int32), iv (0 : Int32), iv p3] [(.int (p3.toInt8.toInt32)), (.int (0 : Int32)), (.ref a2)] _
    refine st10 _ ?_
    show SS p e below T10 m 32 #[rv a1, iv (0 : Int32), rv a2, iv (0 : Int32), iv (3 : Int32), iv (0 : Int32), iv p3] [] _
    refine XS.iinc X10.here hx rfl (hb hby d6_32) rfl (l' := #[rv a1, .val (.int ((0 : Int32) + (1 : Int32))), rv a2, iv (0 : Int32), iv (3 : Int32), iv (0 : Int32), iv p3]) rfl ?_
    show SS p e below T10 m 35 #[rv a1, iv (1 : Int32), rv a2, iv (0 : Int32), iv (3 : Int32), iv (0 : Int32), iv p3] [] _
    refine XS.iinc X10.here hx rfl (hb hby d6_35) rfl (l' := #[rv a1, iv (1 : Int32), rv a2, .val (.int ((0 : Int32) + (1 : Int32))), iv (3 : Int32), iv (0 : Int32), iv p3]) rfl ?_
    show SS p e below T10 m 38 #[rv a1, iv (1 : Int32), rv a2, iv (1 : Int32), iv (3 : Int32), iv (0 : Int32), iv p3] [] _
    refine XS.iinc X10.here hx rfl (hb hby d6_38) rfl (l' := #[rv a1, iv (1 : Int32), rv a2, iv (1 : Int32), iv (3 : Int32), .val (.int ((0 : Int32) + (1 : Int32))), iv p3]) rfl ?_
    show SS p e below T10 m 41 #[rv a1, iv (1 : Int32), rv a2, iv (1 : Int32), iv (3 : Int32), iv (1 : Int32), iv p3] [] _
    refine XS.goto X10.here hx rfl (pc0 := 41) (pc' := 3) rfl (hb hby d6_41) (by decide) (by decide) ?_
    refine XS.iload X10.here hx rfl (hb hby d6_3) rfl ?_
    refine XS.iload X10.here hx rfl (hb hby d6_5) rfl ?_
    show SS p e below T10 m 7 #[rv a1, iv (1 : Int32), rv a2, iv (1 : Int32), iv (3 : Int32), iv (1 : Int32), iv p3] [(.int (3 : Int32)), (.int (1 : Int32))] _
    refine XS.icmpNo X10.here hx rfl (hb hby d6_7) rfl (tlt (by decide : (1 : Int32) < (3 : Int32))).2.1 ?_
    show SS p e below T10 m 10 #[rv a1, iv (1 : Int32), rv a2, iv (1 : Int32), iv (3 : Int32), iv (1 : Int32), iv p3] [] _
    refine XS.aloadN X10.here hx rfl (hb hby d6_10) rfl rfl ?_
    refine XS.iloadN X10.here hx rfl (hb hby d6_11) rfl ?_
    show SS p e below T10 m 12 #[rv a1, iv (1 : Int32), rv a2, iv (1 : Int32), iv (3 : Int32), iv (1 : Int32), iv p3] [(.int (1 : Int32)), (.ref a1)] _
    refine X10.caload hx (j := (1 : Int32)) (v := (.int p4)) (by rw [e10]; exact Ar12.1) (State.isArrayOf_alike hZ.alike Ar12.2.1) Ar12.2.2 hin12 hat12 (g := (mkF m 12 #[rv a1, iv (1 : Int32), rv a2, iv (1 : Int32), iv (3 : Int32), iv (1 : Int32), iv p3] [(.int (1 : Int32)), (.ref a1)])) rfl rfl (hb hby d6_12) _ ?_
    show SS p e below T10 m 13 #[rv a1, iv (1 : Int32), rv a2, iv (1 : Int32), iv (3 : Int32), iv (1 : Int32), iv p3] [(.int p4)] _
    refine XS.istore X10.here hx rfl (hb hby d6_13) rfl (l' := #[rv a1, iv (1 : Int32), rv a2, iv (1 : Int32), iv (3 : Int32), iv (1 : Int32), iv p4]) rfl ?_
    refine XS.iload X10.here hx rfl (hb hby d6_15) rfl ?_
    refine XS.sipush X10.here hx rfl (hb hby d6_17) ?_
    show SS p e below T10 m 20 #[rv a1, iv (1 : Int32), rv a2, iv (1 : Int32), iv (3 : Int32), iv (1 : Int32), iv p4] [(.int (255 : Int32)), (.int p4)] _
    refine XS.icmpYes X10.here hx rfl (pc0 := 20) (pc' := 26) rfl (hb hby d6_20) rfl (flt pr6).2.2.2 (by decide) (by decide) ?_
    show SS p e below T10 m 26 #[rv a1, iv (1 : Int32), rv a2, iv (1 : Int32), iv (3 : Int32), iv (1 : Int32), iv p4] [] _
    refine XS.aloadN X10.here hx rfl (hb hby d6_26) rfl rfl ?_
    refine XS.iloadN X10.here hx rfl (hb hby d6_27) rfl ?_
    refine XS.iload X10.here hx rfl (hb hby d6_28) rfl ?_
    show SS p e below T10 m 30 #[rv a1, iv (1 : Int32), rv a2, iv (1 : Int32), iv (3 : Int32), iv (1 : Int32), iv p4] [(.int p4), (.int (1 : Int32)), (.ref a2)] _
    refine XS.i2b X10.here hx rfl (hb hby d6_30) rfl ?_
    show SS p e below T10 m 31 #[rv a1, iv (1 : Int32), rv a2, iv (1 : Int32), iv (3 : Int32), iv (1 : Int32), iv p4] [(.int (p4.toInt8.toInt32)), (.int (1 : Int32)), (.ref a2)] _
    refine st14 _ ?_
    show SS p e below T14 m 32 #[rv a1, iv (1 : Int32), rv a2, iv (1 : Int32), iv (3 : Int32), iv (1 : Int32), iv p4] [] _
    refine XS.iinc X14.here hx rfl (hb hby d6_32) rfl (l' := #[rv a1, .val (.int ((1 : Int32) + (1 : Int32))), rv a2, iv (1 : Int32), iv (3 : Int32), iv (1 : Int32), iv p4]) rfl ?_
    show SS p e below T14 m 35 #[rv a1, iv (2 : Int32), rv a2, iv (1 : Int32), iv (3 : Int32), iv (1 : Int32), iv p4] [] _
    refine XS.iinc X14.here hx rfl (hb hby d6_35) rfl (l' := #[rv a1, iv (2 : Int32), rv a2, .val (.int ((1 : Int32) + (1 : Int32))), iv (3 : Int32), iv (1 : Int32), iv p4]) rfl ?_
    show SS p e below T14 m 38 #[rv a1, iv (2 : Int32), rv a2, iv (2 : Int32), iv (3 : Int32), iv (1 : Int32), iv p4] [] _
    refine XS.iinc X14.here hx rfl (hb hby d6_38) rfl (l' := #[rv a1, iv (2 : Int32), rv a2, iv (2 : Int32), iv (3 : Int32), .val (.int ((1 : Int32) + (1 : Int32))), iv p4]) rfl ?_
    show SS p e below T14 m 41 #[rv a1, iv (2 : Int32), rv a2, iv (2 : Int32), iv (3 : Int32), iv (2 : Int32), iv p4] [] _
    refine XS.goto X14.here hx rfl (pc0 := 41) (pc' := 3) rfl (hb hby d6_41) (by decide) (by decide) ?_
    refine XS.iload X14.here hx rfl (hb hby d6_3) rfl ?_
    refine XS.iload X14.here hx rfl (hb hby d6_5) rfl ?_
    show SS p e below T14 m 7 #[rv a1, iv (2 : Int32), rv a2, iv (2 : Int32), iv (3 : Int32), iv (2 : Int32), iv p4] [(.int (3 : Int32)), (.int (2 : Int32))] _
    refine XS.icmpNo X14.here hx rfl (hb hby d6_7) rfl (tlt (by decide : (2 : Int32) < (3 : Int32))).2.1 ?_
    show SS p e below T14 m 10 #[rv a1, iv (2 : Int32), rv a2, iv (2 : Int32), iv (3 : Int32), iv (2 : Int32), iv p4] [] _
    refine XS.aloadN X14.here hx rfl (hb hby d6_10) rfl rfl ?_
    refine XS.iloadN X14.here hx rfl (hb hby d6_11) rfl ?_
    show SS p e below T14 m 12 #[rv a1, iv (2 : Int32), rv a2, iv (2 : Int32), iv (3 : Int32), iv (2 : Int32), iv p4] [(.int (2 : Int32)), (.ref a1)] _
    refine X14.caload hx (j := (2 : Int32)) (v := (.int p5)) (by rw [e14]; exact Ar16.1) (State.isArrayOf_alike hZ.alike Ar16.2.1) Ar16.2.2 hin16 hat16 (g := (mkF m 12 #[rv a1, iv (2 : Int32), rv a2, iv (2 : Int32), iv (3 : Int32), iv (2 : Int32), iv p4] [(.int (2 : Int32)), (.ref a1)])) rfl rfl (hb hby d6_12) _ ?_
    show SS p e below T14 m 13 #[rv a1, iv (2 : Int32), rv a2, iv (2 : Int32), iv (3 : Int32), iv (2 : Int32), iv p4] [(.int p5)] _
    refine XS.istore X14.here hx rfl (hb hby d6_13) rfl (l' := #[rv a1, iv (2 : Int32), rv a2, iv (2 : Int32), iv (3 : Int32), iv (2 : Int32), iv p5]) rfl ?_
    refine XS.iload X14.here hx rfl (hb hby d6_15) rfl ?_
    refine XS.sipush X14.here hx rfl (hb hby d6_17) ?_
    show SS p e below T14 m 20 #[rv a1, iv (2 : Int32), rv a2, iv (2 : Int32), iv (3 : Int32), iv (2 : Int32), iv p5] [(.int (255 : Int32)), (.int p5)] _
    refine XS.icmpNo X14.here hx rfl (hb hby d6_20) rfl (tlt pr7).2.2.2 ?_
    show SS p e below T14 m 23 #[rv a1, iv (2 : Int32), rv a2, iv (2 : Int32), iv (3 : Int32), iv (2 : Int32), iv p5] [] _
    refine XS.iload X14.here hx rfl (hb hby d6_23) rfl ?_
    show SS p e below T14 m 25 #[rv a1, iv (2 : Int32), rv a2, iv (2 : Int32), iv (3 : Int32), iv (2 : Int32), iv p5] [(.int (2 : Int32))] _
    exact retI X14 hx Bd.returns (hb hby d6_25) hr
  · show Q_rm6_5 Z a1 a2 p3 p4 p5 k6 k8 h0 n0 _ T14.heap _
    rw [e14]
    exact ⟨rfl, N14, KK14, V14⟩
theorem ef_18_37 (m : MethodId) (x0 : Addr) : entryFrame m #[(.ref x0), (.int (2 : Int32))] 2 = mkF m 0 #[.val (.ref x0), .val (.int (2 : Int32))] [] := by first | (simp [entryFrame, mkF, argsToLocals, Value.category]; done) | rfl
def Q_rm18_4 (Z : State) (a1 : Addr) (p3 : Int32) (p4 : Int32) (p5 : Int32) (p6 : Int32) (p7 : Int32) (p8 : Int32) (k9 : ClassId) (h0 : Heap) (n0 : Nat) (v : Option Value) (h : Heap) (L : List Loc) : Prop := v = some (.int (nar .char ((((p7 &&& (255 : Int32)) <<< ((0 : Int32) &&& 31)) ||| ((p8 &&& (255 : Int32)) <<< ((8 : Int32) &&& 31))).toUInt32.toUInt16.toUInt32.toInt32))) ∧ Fr n0 L ∧ h = h0
set_option maxRecDepth 65536 in
set_option maxHeartbeats 40000000 in
theorem rm18_4 (l : Launch) (Z : State) (a0 : Array Value) (hw : ∀ d ∈ tables_1, d.before a0 Z = true) (ws : List Jvm.Cond) (a1 : Addr) (p3 : Int32) (p4 : Int32) (p5 : Int32) (p6 : Int32) (p7 : Int32) (p8 : Int32) (k9 : ClassId) (h0 : Heap) (n0 : Nat) (OL0 : Old Z n0 h0) (pr1 : Sta Z Z.heap "java/lang/StringUTF16" "$assertionsDisabled" "Z" (.int (1 : Int32))) (pr2 : Arv Z h0 a1 k9 .byte (6 : Int32) [(.int p3), (.int p4), (.int p5), (.int p6), (.int p7), (.int p8)] (.int (0 : Int32))) (pr3 : Sta Z Z.heap "java/lang/StringUTF16" "HI_BYTE_SHIFT" "I" (.int (0 : Int32))) (pr4 : Sta Z Z.heap "java/lang/StringUTF16" "LO_BYTE_SHIFT" "I" (.int (8 : Int32))) :
    MetFree l mn18 (head1 (Jvm.Cond.code mn18 jdk_52_method_5_code 2 (some .char) :: ws) ({ frames := 0, cells := 0, slots := 0, locals := 0 } : Room)) (fun a U => a = #[(.ref a1), (.int (2 : Int32))] ∧ Z.Warmed39 U.vm ∧ U.heap = h0) (fun _ _ _ _ _ => True) (fun _ U o U' => ∃ v L, o = .returned v ∧ Q_rm18_4 Z a1 p3 p4 p5 p6 p7 p8 k9 h0 n0 v U'.heap L ∧ FrameEnd U o U' L ({ frames := 0, cells := 0, slots := 0, locals := 0 } : Room).cells ({ frames := 0, cells := 0, slots := 0, locals := 0 } : Room).slots) := by
  refine MetFree.of_bodySF (plainFor_of_name pn_6) hisR ?_
  intro p e s m args below meth c s₁ Bd hml0 hP hK
  obtain ⟨rfl, hZ, hh⟩ := hP
  have hx := Bd.exec
  have hby := Bd.bytes
  have hml : c.maxLocals = 2 := hml0
  have hown : s.vm.findClass "java/lang/StringUTF16" = some m.cls := findClass_of_methodNamed Bd.named
  have hnm := (name_of_methodNamed Bd.named Bd.method).1
  have X0 : Stand p l e ({ frames := 0, cells := 0, slots := 0, locals := 0 } : Room) s m #[(.ref a1), (.int (2 : Int32))] below meth c s₁ [] 0 0 := Stand.of_body Bd
  have e0 : s₁.heap = h0 := by rw [← hh, Bd.state]; rfl
  have N0 := Fr.nil n0
  have pre0 : ∀ t, SS p e below s₁ m 0 #[rv a1, iv (2 : Int32)] [] t → Steps p.tables e below (s₁.setTop (entryFrame m #[(.ref a1), (.int (2 : Int32))] 2)) t := fun t k => castTop (ef_18_37 m a1) k
  obtain ⟨T2, X2, e2, st2⟩ := getS2 X0 hx hZ hown (host := "") (Or.inl (wd92 hw)) Via.refl e0 (pr1.ext OL0.2) (g := (mkF m 0 #[rv a1, iv (2 : Int32)] [])) rfl (hb hby d18_0)
  obtain ⟨cl10, Ar10, -, S10, -, Hs10, -⟩ := id pr2
  have hin10 : ¬ ((4 : Int32) < 0 ∨ cl10.slots.size ≤ ((4 : Int32)).toNatClampNeg) := inb_of S10 ⟨by decide, by decide⟩
  have hat10 : cl10.slots[((4 : Int32)).toNatClampNeg]? = some (.int p7) := Hs10.at hin10 rfl
  obtain ⟨T11, X11, e11, st11⟩ := getS2 X2 hx hZ hown (host := "") (Or.inl (wd93 hw)) Via.refl e2 (pr3.ext OL0.2) (g := (mkF m 42 #[rv a1, iv (5 : Int32)] [(.int (p7 &&& (255 : Int32)))])) rfl (hb hby d18_42)
  obtain ⟨cl12, Ar12, -, S12, -, Hs12, -⟩ := id pr2
  have hin12 : ¬ ((5 : Int32) < 0 ∨ cl12.slots.size ≤ ((5 : Int32)).toNatClampNeg) := inb_of S12 ⟨by decide, by decide⟩
  have hat12 : cl12.slots[((5 : Int32)).toNatClampNeg]? = some (.int p8) := Hs12.at hin12 rfl
  obtain ⟨T13, X13, e13, st13⟩ := getS2 X11 hx hZ hown (host := "") (Or.inl (wd94 hw)) Via.refl e11 (pr4.ext OL0.2) (g := (mkF m 53 #[rv a1, iv (5 : Int32)] [(.int (p8 &&& (255 : Int32))), (.int ((p7 &&& (255 : Int32)) <<< ((0 : Int32) &&& 31)))])) rfl (hb hby d18_53)
  obtain ⟨fs, hr, hrun, hended, hW, hsame⟩ := X13.leave (v := some (.int (nar .char ((((p7 &&& (255 : Int32)) <<< ((0 : Int32) &&& 31)) ||| ((p8 &&& (255 : Int32)) <<< ((8 : Int32) &&& 31))).toUInt32.toUInt16.toUInt32.toInt32)))) (fun h => by rw [Bd.returns] at h; cases h)
  refine ⟨_, _, pre0 _ ?_, hrun, hended, _, _, rfl, ?_, ⟨_, rfl⟩, hW, hsame.mono (by decide) (by decide)⟩
  · show SS p e below s₁ m 0 #[rv a1, iv (2 : Int32)] [] _
    refine st2 _ ?_
    show SS p e below T2 m 3 #[rv a1, iv (2 : Int32)] [(.int (1 : Int32))] _
    refine XS.ifYes X2.here hx rfl (pc0 := 3) (pc' := 28) rfl (hb hby d18_3) rfl ((if0 _ _).trans (feq (by decide : ¬ ((1 : Int32) = (0 : Int32)))).2) (by decide) (by decide) ?_
    show SS p e below T2 m 28 #[rv a1, iv (2 : Int32)] [] _
    refine XS.iloadN X2.here hx rfl (hb hby d18_28) rfl ?_
    refine XS.iconst X2.here hx rfl (hb hby d18_29) ?_
    show SS p e below T2 m 30 #[rv a1, iv (2 : Int32)] [(.int (1 : Int32)), (.int (2 : Int32))] _
    refine XS.ishl X2.here hx rfl (hb hby d18_30) rfl ?_
    show SS p e below T2 m 31 #[rv a1, iv (2 : Int32)] [(.int (4 : Int32))] _
    refine XS.istoreN X2.here hx rfl (hb hby d18_31) rfl (l' := #[rv a1, iv (4 : Int32)]) rfl ?_
    refine XS.aloadN X2.here hx rfl (hb hby d18_32) rfl rfl ?_
    refine XS.iloadN X2.here hx rfl (hb hby d18_33) rfl ?_
    show SS p e below T2 m 34 #[rv a1, iv (4 : Int32)] [(.int (4 : Int32)), (.ref a1)] _
    refine XS.iinc X2.here hx rfl (hb hby d18_34) rfl (l' := #[rv a1, .val (.int ((4 : Int32) + (1 : Int32)))]) rfl ?_
    show SS p e below T2 m 37 #[rv a1, iv (5 : Int32)] [(.int (4 : Int32)), (.ref a1)] _
    refine X2.baloadBytes hx (j := (4 : Int32)) (v := (.int p7)) (by rw [e2]; exact Ar10.1) (State.isArrayOf_alike hZ.alike Ar10.2.1) Ar10.2.2 hin10 hat10 (g := (mkF m 37 #[rv a1, iv (5 : Int32)] [(.int (4 : Int32)), (.ref a1)])) rfl rfl (hb hby d18_37) _ ?_
    show SS p e below T2 m 38 #[rv a1, iv (5 : Int32)] [(.int p7)] _
    refine XS.sipush X2.here hx rfl (hb hby d18_38) ?_
    show SS p e below T2 m 41 #[rv a1, iv (5 : Int32)] [(.int (255 : Int32)), (.int p7)] _
    refine XS.iand X2.here hx rfl (hb hby d18_41) rfl ?_
    show SS p e below T2 m 42 #[rv a1, iv (5 : Int32)] [(.int (p7 &&& (255 : Int32)))] _
    refine st11 _ ?_
    show SS p e below T11 m 45 #[rv a1, iv (5 : Int32)] [(.int (0 : Int32)), (.int (p7 &&& (255 : Int32)))] _
    refine XS.ishl X11.here hx rfl (hb hby d18_45) rfl ?_
    show SS p e below T11 m 46 #[rv a1, iv (5 : Int32)] [(.int ((p7 &&& (255 : Int32)) <<< ((0 : Int32) &&& 31)))] _
    refine XS.aloadN X11.here hx rfl (hb hby d18_46) rfl rfl ?_
    refine XS.iloadN X11.here hx rfl (hb hby d18_47) rfl ?_
    show SS p e below T11 m 48 #[rv a1, iv (5 : Int32)] [(.int (5 : Int32)), (.ref a1), (.int ((p7 &&& (255 : Int32)) <<< ((0 : Int32) &&& 31)))] _
    refine X11.baloadBytes hx (j := (5 : Int32)) (v := (.int p8)) (by rw [e11]; exact Ar12.1) (State.isArrayOf_alike hZ.alike Ar12.2.1) Ar12.2.2 hin12 hat12 (g := (mkF m 48 #[rv a1, iv (5 : Int32)] [(.int (5 : Int32)), (.ref a1), (.int ((p7 &&& (255 : Int32)) <<< ((0 : Int32) &&& 31)))])) rfl rfl (hb hby d18_48) _ ?_
    show SS p e below T11 m 49 #[rv a1, iv (5 : Int32)] [(.int p8), (.int ((p7 &&& (255 : Int32)) <<< ((0 : Int32) &&& 31)))] _
    refine XS.sipush X11.here hx rfl (hb hby d18_49) ?_
    show SS p e below T11 m 52 #[rv a1, iv (5 : Int32)] [(.int (255 : Int32)), (.int p8), (.int ((p7 &&& (255 : Int32)) <<< ((0 : Int32) &&& 31)))] _
    refine XS.iand X11.here hx rfl (hb hby d18_52) rfl ?_
    show SS p e below T11 m 53 #[rv a1, iv (5 : Int32)] [(.int (p8 &&& (255 : Int32))), (.int ((p7 &&& (255 : Int32)) <<< ((0 : Int32) &&& 31)))] _
    refine st13 _ ?_
    show SS p e below T13 m 56 #[rv a1, iv (5 : Int32)] [(.int (8 : Int32)), (.int (p8 &&& (255 : Int32))), (.int ((p7 &&& (255 : Int32)) <<< ((0 : Int32) &&& 31)))] _
    refine XS.ishl X13.here hx rfl (hb hby d18_56) rfl ?_
    show SS p e below T13 m 57 #[rv a1, iv (5 : Int32)] [(.int ((p8 &&& (255 : Int32)) <<< ((8 : Int32) &&& 31))), (.int ((p7 &&& (255 : Int32)) <<< ((0 : Int32) &&& 31)))] _
    refine XS.ior X13.here hx rfl (hb hby d18_57) rfl ?_
    show SS p e below T13 m 58 #[rv a1, iv (5 : Int32)] [(.int (((p7 &&& (255 : Int32)) <<< ((0 : Int32) &&& 31)) ||| ((p8 &&& (255 : Int32)) <<< ((8 : Int32) &&& 31))))] _
    refine XS.i2c X13.here hx rfl (hb hby d18_58) rfl ?_
    show SS p e below T13 m 59 #[rv a1, iv (5 : Int32)] [(.int ((((p7 &&& (255 : Int32)) <<< ((0 : Int32) &&& 31)) ||| ((p8 &&& (255 : Int32)) <<< ((8 : Int32) &&& 31))).toUInt32.toUInt16.toUInt32.toInt32))] _
    exact retN X13 hx (t := .char) Bd.returns (by simp) (hb hby d18_59) hr
  · show Q_rm18_4 Z a1 p3 p4 p5 p6 p7 p8 k9 h0 n0 _ T13.heap _
    rw [e13]
    exact ⟨rfl, N0, rfl⟩
def Q_rm5_5 (Z : State) (a1 : Addr) (p3 : Int32) (p4 : Int32) (p5 : Int32) (k6 : ClassId) (h0 : Heap) (n0 : Nat) (v : Option Value) (h : Heap) (L : List Loc) : Prop := ∃ b9_0 : Addr, ∃ kx9_0 : ClassId, v = some (.ref b9_0) ∧ Fr n0 L ∧ Keep h0 h [] ∧ h0.size ≤ b9_0 ∧ Arv Z h b9_0 kx9_0 .byte (6 : Int32) [(.int (((p3 >>> ((0 : Int32) &&& 31)).toInt8.toInt32).toInt8.toInt32)), (.int (((p3 >>> ((8 : Int32) &&& 31)).toInt8.toInt32).toInt8.toInt32)), (.int (((p4 >>> ((0 : Int32) &&& 31)).toInt8.toInt32).toInt8.toInt32)), (.int (((p4 >>> ((8 : Int32) &&& 31)).toInt8.toInt32).toInt8.toInt32)), (.int (((p5 >>> ((0 : Int32) &&& 31)).toInt8.toInt32).toInt8.toInt32)), (.int (((p5 >>> ((8 : Int32) &&& 31)).toInt8.toInt32).toInt8.toInt32))] (.int (0 : Int32))
set_option maxRecDepth 65536 in
set_option maxHeartbeats 40000000 in
theorem rm5_5 (l : Launch) (Z : State) (a0 : Array Value) (hw : ∀ d ∈ tables_1, d.before a0 Z = true) (ws : List Jvm.Cond) (a1 : Addr) (p3 : Int32) (p4 : Int32) (p5 : Int32) (k6 : ClassId) (h0 : Heap) (n0 : Nat) (OL0 : Old Z n0 h0) (pr1 : Arv Z h0 a1 k6 .char (3 : Int32) [(.int p3), (.int p4), (.int p5)] (.int (0 : Int32))) (pr2 : ¬ ((255 : Int32) < p3)) (pr3 : ¬ ((255 : Int32) < p4)) (pr4 : (255 : Int32) < p5) (pr5 : Sta Z Z.heap "java/lang/StringUTF16" "$assertionsDisabled" "Z" (.int (1 : Int32))) (pr6 : Sta Z Z.heap "java/lang/StringUTF16" "HI_BYTE_SHIFT" "I" (.int (0 : Int32))) (pr7 : Sta Z Z.heap "java/lang/StringUTF16" "LO_BYTE_SHIFT" "I" (.int (8 : Int32))) (pr8 : (255 : Int32) < (nar .char (((((((p5 >>> ((0 : Int32) &&& 31)).toInt8.toInt32).toInt8.toInt32) &&& (255 : Int32)) <<< ((0 : Int32) &&& 31)) ||| (((((p5 >>> ((8 : Int32) &&& 31)).toInt8.toInt32).toInt8.toInt32) &&& (255 : Int32)) <<< ((8 : Int32) &&& 31))).toUInt32.toUInt16.toUInt32.toInt32))) :
    MetFree l mn5 (head1 (Jvm.Cond.code mn5 jdk_52_method_16_code 6 (some (.array .byte)) :: ws) ({ frames := 3, cells := 2, slots := 9, locals := 40 } : Room)) (fun a U => a = #[(.ref a1), (.int (0 : Int32)), (.int (3 : Int32))] ∧ Z.Warmed39 U.vm ∧ U.heap = h0) (fun _ _ _ _ _ => True) (fun _ U o U' => ∃ v L, o = .returned v ∧ Q_rm5_5 Z a1 p3 p4 p5 k6 h0 n0 v U'.heap L ∧ FrameEnd U o U' L ({ frames := 3, cells := 2, slots := 9, locals := 40 } : Room).cells ({ frames := 3, cells := 2, slots := 9, locals := 40 } : Room).slots) := by
  refine MetFree.of_bodySF (plainFor_of_name pn_6) hisR ?_
  intro p e s m args below meth c s₁ Bd hml0 hP hK
  obtain ⟨rfl, hZ, hh⟩ := hP
  have hx := Bd.exec
  have hby := Bd.bytes
  have hml : c.maxLocals = 6 := hml0
  have hown : s.vm.findClass "java/lang/StringUTF16" = some m.cls := findClass_of_methodNamed Bd.named
  have hnm := (name_of_methodNamed Bd.named Bd.method).1
  have X0 : Stand p l e ({ frames := 3, cells := 2, slots := 9, locals := 40 } : Room) s m #[(.ref a1), (.int (0 : Int32)), (.int (3 : Int32))] below meth c s₁ [] 0 0 := Stand.of_body Bd
  have e0 : s₁.heap = h0 := by rw [← hh, Bd.state]; rfl
  have N0 := Fr.nil n0
  have pre0 : ∀ t, SS p e below s₁ m 0 #[rv a1, iv (0 : Int32), iv (3 : Int32), .unset, .unset, .unset] [] t → Steps p.tables e below (s₁.setTop (entryFrame m #[(.ref a1), (.int (0 : Int32)), (.int (3 : Int32))] 6)) t := fun t k => castTop (ef_5_33 m a1) k
  obtain ⟨T2, h2, k2, X2, e2, E2, A2, st2⟩ := newP (aty := .byte) X0 hx hZ (wd24 hw) e0 (g := (mkF m 1 #[rv a1, iv (0 : Int32), iv (3 : Int32), .unset, .unset, .unset] [(.int (3 : Int32))])) rfl (hb hby d5_1) rfl (by decide) (cap := 3) (by decide) (by decide) (by decide) (by decide)
  obtain ⟨b2, g2⟩ : ∃ z, z = h0.size := ⟨_, rfl⟩
  rw [← g2] at A2 st2
  have V2 : Arv Z h2 b2 k2 .byte (3 : Int32) [(.int (0 : Int32)), (.int (0 : Int32)), (.int (0 : Int32))] (.int (0 : Int32)) := (Arv.new A2 (by decide)).pad (pad_rep [] (.int (0 : Int32)) 3)
  have g_b2 : n0 ≤ b2 := (Nat.le_trans (Nat.le_trans (Nat.le_of_eq OL0.1.symm) OL0.2.1) (Nat.le_of_eq g2.symm))
  have sz_b2 : h0.size ≤ b2 := (Nat.le_trans (Keep.refl h0 []).1 (Nat.le_of_eq g2.symm))
  have KK2 : Keep h0 h2 [] := (Keep.refl h0 []).ext E2
  have OL2 := OL0.ext E2
  have fc8 := (pr1.ext E2)
  obtain ⟨_, _, ⟨T7, L7, k7, n7⟩, -, X7, ⟨Lc7, hQ7, l7, y7, z7⟩, st7⟩ := Jvm.LawKit.callS X2 hx (y := mn6) hown (mvT hZ (wd25 hw)) (mvT hZ (wd26 hw)) (mvT hZ (wd22 hw)) (mvT hZ (wd27 hw)) (by decide) (backOf (W := 0) (rm6_5 l Z a0 hw [] a1 b2 p3 p4 p5 k6 k2 h2 n0 OL2 fc8 pr2 V2 g_b2 (Nat.ne_of_lt (Nat.lt_of_lt_of_le pr1.lt sz_b2)) pr3 pr4) hZ (wd27 hw) (wd22 hw) (by decide) (by decide)) (g := (mkF m 9 #[rv a1, iv (0 : Int32), iv (3 : Int32), rv b2, .unset, .unset] [(.int (3 : Int32)), (.int (0 : Int32)), (.ref b2), (.int (0 : Int32)), (.ref a1)])) rfl (by rw [hml]; rfl) (argsL := [(.ref a1), (.int (0 : Int32)), (.ref b2), (.int (0 : Int32)), (.int (3 : Int32))]) (rest := []) (lenOf pd_14 rfl) rfl (by show 2 * 0 + _ ≤ _; exact Nat.le_of_eq rfl) (hb hby d5_9) (fun _ _ => ⟨rfl, e2, (by decide : 1 + 0 ≤ _), (by decide : 3 + 0 ≤ _)⟩)
  dsimp only [Pt.U, Pt.locs, Pt.cells, Pt.slots] at X7 l7 y7 z7 st7 hQ7
  subst l7 y7 z7
  obtain ⟨rfl, Nq7, K7, u7_0⟩ := hQ7
  have KK7 : Keep h0 T7.heap [] := KK2.trans K7 (allS (Or.inr sz_b2) all0)
  have OL7 := OL2.keep K7 (allS g_b2 all0)
  have N7 := Fr.app N0 Nq7
  have fc10 := (fc8.keep K7 (ninS (Nat.ne_of_lt (Nat.lt_of_lt_of_le pr1.lt sz_b2)) nin0))
  obtain ⟨_, _, ⟨T9, L9, k9, n9⟩, -, X9, ⟨Lc9, hQ9, l9, y9, z9⟩, st9⟩ := Jvm.LawKit.callS X7 hx (y := mn14) hown (mvT hZ (wd79 hw)) (mvT hZ (wd80 hw)) (mvT hZ (wd22 hw)) (mvT hZ (wd81 hw)) (by decide) (backOf (W := 0) (rm14_1 l Z a0 hw [] a1 p3 p4 p5 k6 T7.heap n0 OL7 fc10 pr5 pr6 pr7) hZ (wd81 hw) (wd22 hw) (by decide) (by decide)) (g := (mkF m 23 #[rv a1, iv (0 : Int32), iv (3 : Int32), rv b2, iv (2 : Int32), .unset] [(.int (3 : Int32)), (.int (0 : Int32)), (.ref a1)])) rfl (by rw [hml]; rfl) (argsL := [(.ref a1), (.int (0 : Int32)), (.int (3 : Int32))]) (rest := []) (lenOf pd_17 rfl) rfl (by show 2 * 0 + _ ≤ _; exact Nat.le_of_eq rfl) (hb hby d5_23) (fun _ _ => ⟨rfl, rfl, (by decide : 1 + 1 ≤ _), (by decide : 3 + 6 ≤ _)⟩)
  dsimp only [Pt.U, Pt.locs, Pt.cells, Pt.slots] at X9 l9 y9 z9 st9 hQ9
  subst l9 y9 z9
  obtain ⟨b9_0, kx9_0, rfl, Nq9, K9, u9_0, u9_1⟩ := hQ9
  have KK9 : Keep h0 T9.heap [] := KK7.trans K9 all0
  have OL9 := OL7.keep K9 all0
  have g_b9_0 : n0 ≤ b9_0 := Nat.le_trans (Nat.le_trans (Nat.le_of_eq OL7.1.symm) OL7.2.1) u9_0
  have sz_b9_0 : h0.size ≤ b9_0 := Nat.le_trans KK7.1 u9_0
  have N9 := Fr.app N7 Nq9
  obtain ⟨_, _, ⟨T11, L11, k11, n11⟩, -, X11, ⟨Lc11, hQ11, l11, y11, z11⟩, st11⟩ := Jvm.LawKit.callS X9 hx (y := mn18) hown (mvT hZ (wd95 hw)) (mvT hZ (wd96 hw)) (mvT hZ (wd22 hw)) (mvT hZ (wd97 hw)) (by decide) (backOf (W := 0) (rm18_4 l Z a0 hw [] b9_0 (((p3 >>> ((0 : Int32) &&& 31)).toInt8.toInt32).toInt8.toInt32) (((p3 >>> ((8 : Int32) &&& 31)).toInt8.toInt32).toInt8.toInt32) (((p4 >>> ((0 : Int32) &&& 31)).toInt8.toInt32).toInt8.toInt32) (((p4 >>> ((8 : Int32) &&& 31)).toInt8.toInt32).toInt8.toInt32) (((p5 >>> ((0 : Int32) &&& 31)).toInt8.toInt32).toInt8.toInt32) (((p5 >>> ((8 : Int32) &&& 31)).toInt8.toInt32).toInt8.toInt32) kx9_0 T9.heap n0 OL9 pr5 u9_1 pr6 pr7) hZ (wd97 hw) (wd22 hw) (by decide) (by decide)) (g := (mkF m 32 #[rv a1, iv (0 : Int32), iv (3 : Int32), rv b2, iv (2 : Int32), rv b9_0] [(.int (2 : Int32)), (.ref b9_0)])) rfl (by rw [hml]; rfl) (argsL := [(.ref b9_0), (.int (2 : Int32))]) (rest := []) (lenOf pd_18 rfl) rfl (by show 2 * 0 + _ ≤ _; exact Nat.le_of_eq rfl) (hb hby d5_32) (fun _ _ => ⟨rfl, rfl, (by decide : 2 + 0 ≤ _), (by decide : 9 + 0 ≤ _)⟩)
  dsimp only [Pt.U, Pt.locs, Pt.cells, Pt.slots] at X11 l11 y11 z11 st11 hQ11
  subst l11 y11 z11
  obtain ⟨rfl, Nq11, ec11⟩ := hQ11
  have N11 := Fr.app N9 Nq11
  obtain ⟨fs, hr, hrun, hended, hW, hsame⟩ := X11.leave (v := some (.ref b9_0)) (fun h => by rw [Bd.returns] at h; cases h)
  refine ⟨_, _, pre0 _ ?_, hrun, hended, _, _, rfl, ?_, ⟨_, rfl⟩, hW, hsame.mono (by decide) (by decide)⟩
  · show SS p e below s₁ m 0 #[rv a1, iv (0 : Int32), iv (3 : Int32), .unset, .unset, .unset] [] _
    refine XS.iloadN X0.here hx rfl (hb hby d5_0) rfl ?_
    show SS p e below s₁ m 1 #[rv a1, iv (0 : Int32), iv (3 : Int32), .unset, .unset, .unset] [(.int (3 : Int32))] _
    refine st2 _ ?_
    show SS p e below T2 m 3 #[rv a1, iv (0 : Int32), iv (3 : Int32), .unset, .unset, .unset] [(.ref b2)] _
    refine XS.astoreN X2.here hx rfl (hb hby d5_3) rfl rfl (l' := #[rv a1, iv (0 : Int32), iv (3 : Int32), rv b2, .unset, .unset]) rfl ?_
    refine XS.aloadN X2.here hx rfl (hb hby d5_4) rfl rfl ?_
    refine XS.iloadN X2.here hx rfl (hb hby d5_5) rfl ?_
    refine XS.aloadN X2.here hx rfl (hb hby d5_6) rfl rfl ?_
    show SS p e below T2 m 7 #[rv a1, iv (0 : Int32), iv (3 : Int32), rv b2, .unset, .unset] [(.ref b2), (.int (0 : Int32)), (.ref a1)] _
    refine XS.iconst X2.here hx rfl (hb hby d5_7) ?_
    refine XS.iloadN X2.here hx rfl (hb hby d5_8) rfl ?_
    show SS p e below T2 m 9 #[rv a1, iv (0 : Int32), iv (3 : Int32), rv b2, .unset, .unset] [(.int (3 : Int32)), (.int (0 : Int32)), (.ref b2), (.int (0 : Int32)), (.ref a1)] _
    refine st7 _ ?_
    show SS p e below T7 m 12 #[rv a1, iv (0 : Int32), iv (3 : Int32), rv b2, .unset, .unset] [(.int (2 : Int32))] _
    refine XS.istore X7.here hx rfl (hb hby d5_12) rfl (l' := #[rv a1, iv (0 : Int32), iv (3 : Int32), rv b2, iv (2 : Int32), .unset]) rfl ?_
    refine XS.iload X7.here hx rfl (hb hby d5_14) rfl ?_
    refine XS.iloadN X7.here hx rfl (hb hby d5_16) rfl ?_
    show SS p e below T7 m 17 #[rv a1, iv (0 : Int32), iv (3 : Int32), rv b2, iv (2 : Int32), .unset] [(.int (3 : Int32)), (.int (2 : Int32))] _
    refine XS.icmpNo X7.here hx rfl (hb hby d5_17) rfl (feq (by decide : ¬ ((2 : Int32) = (3 : Int32)))).1 ?_
    show SS p e below T7 m 20 #[rv a1, iv (0 : Int32), iv (3 : Int32), rv b2, iv (2 : Int32), .unset] [] _
    refine XS.aloadN X7.here hx rfl (hb hby d5_20) rfl rfl ?_
    refine XS.iloadN X7.here hx rfl (hb hby d5_21) rfl ?_
    refine XS.iloadN X7.here hx rfl (hb hby d5_22) rfl ?_
    show SS p e below T7 m 23 #[rv a1, iv (0 : Int32), iv (3 : Int32), rv b2, iv (2 : Int32), .unset] [(.int (3 : Int32)), (.int (0 : Int32)), (.ref a1)] _
    refine st9 _ ?_
    show SS p e below T9 m 26 #[rv a1, iv (0 : Int32), iv (3 : Int32), rv b2, iv (2 : Int32), .unset] [(.ref b9_0)] _
    refine XS.astore X9.here hx rfl (hb hby d5_26) rfl rfl (l' := #[rv a1, iv (0 : Int32), iv (3 : Int32), rv b2, iv (2 : Int32), rv b9_0]) rfl ?_
    refine XS.aload X9.here hx rfl (hb hby d5_28) rfl rfl ?_
    refine XS.iload X9.here hx rfl (hb hby d5_30) rfl ?_
    show SS p e below T9 m 32 #[rv a1, iv (0 : Int32), iv (3 : Int32), rv b2, iv (2 : Int32), rv b9_0] [(.int (2 : Int32)), (.ref b9_0)] _
    refine st11 _ ?_
    show SS p e below T11 m 35 #[rv a1, iv (0 : Int32), iv (3 : Int32), rv b2, iv (2 : Int32), rv b9_0] [(.int (nar .char (((((((p5 >>> ((0 : Int32) &&& 31)).toInt8.toInt32).toInt8.toInt32) &&& (255 : Int32)) <<< ((0 : Int32) &&& 31)) ||| (((((p5 >>> ((8 : Int32) &&& 31)).toInt8.toInt32).toInt8.toInt32) &&& (255 : Int32)) <<< ((8 : Int32) &&& 31))).toUInt32.toUInt16.toUInt32.toInt32)))] _
    refine XS.sipush X11.here hx rfl (hb hby d5_35) ?_
    show SS p e below T11 m 38 #[rv a1, iv (0 : Int32), iv (3 : Int32), rv b2, iv (2 : Int32), rv b9_0] [(.int (255 : Int32)), (.int (nar .char (((((((p5 >>> ((0 : Int32) &&& 31)).toInt8.toInt32).toInt8.toInt32) &&& (255 : Int32)) <<< ((0 : Int32) &&& 31)) ||| (((((p5 >>> ((8 : Int32) &&& 31)).toInt8.toInt32).toInt8.toInt32) &&& (255 : Int32)) <<< ((8 : Int32) &&& 31))).toUInt32.toUInt16.toUInt32.toInt32)))] _
    refine XS.icmpYes X11.here hx rfl (pc0 := 38) (pc' := 54) rfl (hb hby d5_38) rfl (tlt pr8).2.2.1 (by decide) (by decide) ?_
    show SS p e below T11 m 54 #[rv a1, iv (0 : Int32), iv (3 : Int32), rv b2, iv (2 : Int32), rv b9_0] [] _
    refine XS.aload X11.here hx rfl (hb hby d5_54) rfl rfl ?_
    show SS p e below T11 m 56 #[rv a1, iv (0 : Int32), iv (3 : Int32), rv b2, iv (2 : Int32), rv b9_0] [(.ref b9_0)] _
    jvm_step X11.here [X11.here.top, hx, (hb hby d5_56), X11.method', Bd.returns, Value.isRef, FieldType.isReference]
    first | (intro acts; rw [hr _ acts rfl rfl rfl]) | rw [hr _ _ rfl rfl rfl]
    exact Steps.refl _
  · show Q_rm5_5 Z a1 p3 p4 p5 k6 h0 n0 _ T11.heap _
    rw [ec11]
    exact ⟨b9_0, kx9_0, rfl, N11, KK9, sz_b9_0, u9_1⟩
def Q_rm3_6 (Z : State) (a1 : Addr) (a2 : Addr) (p4 : Int32) (p6 : Int32) (p7 : Int32) (p8 : Int32) (k9 : ClassId) (h0 : Heap) (n0 : Nat) (v : Option Value) (h : Heap) (L : List Loc) : Prop := ∃ b10_0 : Addr, ∃ kx10_0 : ClassId, v = none ∧ Fr n0 L ∧ Keep h0 h [a1] ∧ h0.size ≤ b10_0 ∧ Fld Z h a1 "java/lang/String" "coder" "B" (.int (1 : Int32)) ∧ Fld Z h a1 "java/lang/String" "value" "[B" (.ref b10_0) ∧ Arv Z h b10_0 kx10_0 .byte (6 : Int32) [(.int (((p6 >>> ((0 : Int32) &&& 31)).toInt8.toInt32).toInt8.toInt32)), (.int (((p6 >>> ((8 : Int32) &&& 31)).toInt8.toInt32).toInt8.toInt32)), (.int (((p7 >>> ((0 : Int32) &&& 31)).toInt8.toInt32).toInt8.toInt32)), (.int (((p7 >>> ((8 : Int32) &&& 31)).toInt8.toInt32).toInt8.toInt32)), (.int (((p8 >>> ((0 : Int32) &&& 31)).toInt8.toInt32).toInt8.toInt32)), (.int (((p8 >>> ((8 : Int32) &&& 31)).toInt8.toInt32).toInt8.toInt32))] (.int (0 : Int32))
set_option maxRecDepth 65536 in
set_option maxHeartbeats 40000000 in
theorem rm3_6 (l : Launch) (Z : State) (a0 : Array Value) (hw : ∀ d ∈ tables_1, d.before a0 Z = true) (ws : List Jvm.Cond) (a1 : Addr) (a2 : Addr) (p4 : Int32) (p6 : Int32) (p7 : Int32) (p8 : Int32) (k9 : ClassId) (h0 : Heap) (n0 : Nat) (OL0 : Old Z n0 h0) (pr1 : Sta Z Z.heap "java/lang/String" "COMPACT_STRINGS" "Z" (.int p4)) (pr2 : ¬ (p4 = (0 : Int32))) (pr3 : Arv Z h0 a2 k9 .char (3 : Int32) [(.int p6), (.int p7), (.int p8)] (.int (0 : Int32))) (pr4 : ¬ ((255 : Int32) < p6)) (pr5 : ¬ ((255 : Int32) < p7)) (pr6 : (255 : Int32) < p8) (pr7 : Sta Z Z.heap "java/lang/StringUTF16" "$assertionsDisabled" "Z" (.int (1 : Int32))) (pr8 : Sta Z Z.heap "java/lang/StringUTF16" "HI_BYTE_SHIFT" "I" (.int (0 : Int32))) (pr9 : Sta Z Z.heap "java/lang/StringUTF16" "LO_BYTE_SHIFT" "I" (.int (8 : Int32))) (pr10 : (255 : Int32) < (nar .char (((((((p8 >>> ((0 : Int32) &&& 31)).toInt8.toInt32).toInt8.toInt32) &&& (255 : Int32)) <<< ((0 : Int32) &&& 31)) ||| (((((p8 >>> ((8 : Int32) &&& 31)).toInt8.toInt32).toInt8.toInt32) &&& (255 : Int32)) <<< ((8 : Int32) &&& 31))).toUInt32.toUInt16.toUInt32.toInt32))) (pr11 : Exa Z h0 a1 "java/lang/String") (pr12 : Fld Z h0 a1 "java/lang/String" "coder" "B" (.int (0 : Int32))) (pr13 : n0 ≤ a1) (pr14 : Fld Z h0 a1 "java/lang/String" "value" "[B" .null) :
    MetFree l mn3 (head1 (Jvm.Cond.code mn3 jdk_42_method_149_code 6 none :: ws) ({ frames := 4, cells := 2, slots := 9, locals := 57 } : Room)) (fun a U => a = #[(.ref a1), (.ref a2), (.int (0 : Int32)), (.int (3 : Int32)), .null] ∧ Z.Warmed39 U.vm ∧ U.heap = h0) (fun _ _ _ _ _ => True) (fun _ U o U' => ∃ v L, o = .returned v ∧ Q_rm3_6 Z a1 a2 p4 p6 p7 p8 k9 h0 n0 v U'.heap L ∧ FrameEnd U o U' L ({ frames := 4, cells := 2, slots := 9, locals := 57 } : Room).cells ({ frames := 4, cells := 2, slots := 9, locals := 57 } : Room).slots) := by
  refine MetFree.of_bodySF (plainFor_of_name pn_0) hisR ?_
  intro p e s m args below meth c s₁ Bd hml0 hP hK
  obtain ⟨rfl, hZ, hh⟩ := hP
  have hx := Bd.exec
  have hby := Bd.bytes
  have hml : c.maxLocals = 6 := hml0
  have hown : s.vm.findClass "java/lang/String" = some m.cls := findClass_of_methodNamed Bd.named
  have hnm := (name_of_methodNamed Bd.named Bd.method).1
  have X0 : Stand p l e ({ frames := 4, cells := 2, slots := 9, locals := 57 } : Room) s m #[(.ref a1), (.ref a2), (.int (0 : Int32)), (.int (3 : Int32)), .null] below meth c s₁ [] 0 0 := Stand.of_body Bd
  have e0 : s₁.heap = h0 := by rw [← hh, Bd.state]; rfl
  have N0 := Fr.nil n0
  have pre0 : ∀ t, SS p e below s₁ m 0 #[rv a1, rv a2, iv (0 : Int32), iv (3 : Int32), .val .null, .unset] [] t → Steps p.tables e below (s₁.setTop (entryFrame m #[(.ref a1), (.ref a2), (.int (0 : Int32)), (.int (3 : Int32)), .null] 6)) t := fun t k => castTop (ef_3_35 m a1 a2) k
  obtain ⟨T3, X3, e3, st3⟩ := initO X0 hx hZ hown (wd16 hw) (wd17 hw) (wd18 hw) e0 (g := (mkF m 1 #[rv a1, rv a2, iv (0 : Int32), iv (3 : Int32), .val .null, .unset] [(.ref a1)])) rfl (by rw [hml]; rfl) rfl (hb hby d3_1) (by decide) (W := 0) (by show 2 * 0 + _ ≤ _; exact Nat.le_of_eq rfl) (by decide)
  obtain ⟨T5, X5, e5, st5⟩ := getS2 X3 hx hZ hown (host := "") (Or.inl (wd19 hw)) Via.refl e3 (pr1.ext OL0.2) (g := (mkF m 27 #[rv a1, rv a2, iv (0 : Int32), iv (3 : Int32), .val .null, .unset] [])) rfl (hb hby d3_27)
  obtain ⟨_, _, ⟨T10, L10, k10, n10⟩, -, X10, ⟨Lc10, hQ10, l10, y10, z10⟩, st10⟩ := Jvm.LawKit.callS X5 hx (y := mn5) hown (mvT hZ (wd20 hw)) (mvT hZ (wd21 hw)) (mvT hZ (wd22 hw)) (mvT hZ (wd23 hw)) (by decide) (backOf (W := 0) (rm5_5 l Z a0 hw [] a2 p6 p7 p8 k9 h0 n0 OL0 pr3 pr4 pr5 pr6 pr7 pr8 pr9 pr10) hZ (wd23 hw) (wd22 hw) (by decide) (by decide)) (g := (mkF m 36 #[rv a1, rv a2, iv (0 : Int32), iv (3 : Int32), .val .null, .unset] [(.int (3 : Int32)), (.int (0 : Int32)), (.ref a2)])) rfl (by rw [hml]; rfl) (argsL := [(.ref a2), (.int (0 : Int32)), (.int (3 : Int32))]) (rest := []) (lenOf pd_17 rfl) rfl (by show 2 * 0 + _ ≤ _; exact Nat.le_of_eq rfl) (hb hby d3_36) (fun _ _ => ⟨rfl, e5, (by decide : 0 + 2 ≤ _), (by decide : 0 + 9 ≤ _)⟩)
  dsimp only [Pt.U, Pt.locs, Pt.cells, Pt.slots] at X10 l10 y10 z10 st10 hQ10
  subst l10 y10 z10
  obtain ⟨b10_0, kx10_0, rfl, Nq10, K10, u10_0, u10_1⟩ := hQ10
  have KK10 : Keep h0 T10.heap [a1] := (Keep.refl h0 [a1]).trans K10 all0
  have OL10 := OL0.keep K10 all0
  have g_b10_0 : n0 ≤ b10_0 := Nat.le_trans (Nat.le_trans (Nat.le_of_eq OL0.1.symm) OL0.2.1) u10_0
  have sz_b10_0 : h0.size ≤ b10_0 := Nat.le_trans (Keep.refl h0 [a1]).1 u10_0
  have N10 := Fr.app N0 Nq10
  obtain ⟨_, _, ⟨T11, L11, k11, n11⟩, -, X11, ⟨Lc11, hQ11, l11, y11, z11⟩, st11⟩ := Jvm.LawKit.callS X10 hx (y := mn7) hown (mvT hZ (wd28 hw)) (mvT hZ (wd29 hw)) (mvT hZ (wd22 hw)) (mvT hZ (wd30 hw)) (by decide) (backOf (W := 1) (rm7_2 l Z a0 hw [] b10_0 (((p6 >>> ((0 : Int32) &&& 31)).toInt8.toInt32).toInt8.toInt32) (((p6 >>> ((8 : Int32) &&& 31)).toInt8.toInt32).toInt8.toInt32) (((p7 >>> ((0 : Int32) &&& 31)).toInt8.toInt32).toInt8.toInt32) (((p7 >>> ((8 : Int32) &&& 31)).toInt8.toInt32).toInt8.toInt32) (((p8 >>> ((0 : Int32) &&& 31)).toInt8.toInt32).toInt8.toInt32) (((p8 >>> ((8 : Int32) &&& 31)).toInt8.toInt32).toInt8.toInt32) kx10_0 T10.heap n0 OL10 u10_1) hZ (wd30 hw) (wd22 hw) (by decide) (by decide)) (g := (mkF m 45 #[rv a1, rv a2, iv (0 : Int32), iv (3 : Int32), .val .null, rv b10_0] [(.int (3 : Int32)), (.ref b10_0), (.ref a1)])) rfl (by rw [hml]; rfl) (argsL := [(.ref b10_0), (.int (3 : Int32))]) (rest := [(.ref a1)]) (lenOf pd_19 rfl) rfl (by show 2 * 0 + _ ≤ _; exact Nat.le_of_eq rfl) (hb hby d3_45) (fun _ _ => ⟨rfl, rfl, (by decide : 2 + 0 ≤ _), (by decide : 9 + 0 ≤ _)⟩)
  dsimp only [Pt.U, Pt.locs, Pt.cells, Pt.slots] at X11 l11 y11 z11 st11 hQ11
  subst l11 y11 z11
  obtain ⟨rfl, Nq11, ec11⟩ := hQ11
  have N11 := Fr.app N10 Nq11
  have fc12 := (pr11.keep K10)
  have fc13 := (pr12.keep K10 nin0)
  obtain ⟨T14, h14, X14, e14, W14, st14⟩ := putFN X11 hx hZ hown (wd31 hw) Via.refl ec11 fc13 fc12 (Or.inr ⟨(wd32 hw), rfl, hnm⟩) (wd6 hw) (ty := .byte) (v' := (.int (1 : Int32))) (by decide) rfl rfl (g := (mkF m 48 #[rv a1, rv a2, iv (0 : Int32), iv (3 : Int32), .val .null, rv b10_0] [(.int (1 : Int32)), (.ref a1)])) rfl rfl (hb hby d3_48)
  have Fw14 := fc13.same W14
  have KK14 : Keep h0 h14 [a1] := KK10.wr W14 (Or.inl (List.mem_of_getElem? (i := 0) rfl))
  have OL14 := OL10.wr W14 pr13
  have N14 := Fr.snoc X14 N11 pr13
  have fc15 := (fc12.wr W14)
  have fc16 := ((pr14.keep K10 nin0).other W14 (Or.inr (slot_ne (Or.inr (wd34 hw)) (Or.inr (wd32 hw)) (by decide) (t := (.array .byte)) (t' := .byte) (by decide) (by decide))))
  obtain ⟨T17, h17, X17, e17, W17, st17⟩ := putF X14 hx hZ hown (host := "") (Or.inl (wd33 hw)) Via.refl e14 fc16 fc15 (Or.inr ⟨(wd34 hw), rfl, hnm⟩) (wd6 hw) (ty := (.array .byte)) (by decide) rfl rfl (g := (mkF m 54 #[rv a1, rv a2, iv (0 : Int32), iv (3 : Int32), .val .null, rv b10_0] [(.ref b10_0), (.ref a1)])) rfl rfl (hb hby d3_54)
  have Fw17 := fc16.same W17
  have KK17 : Keep h0 h17 [a1] := KK14.wr W17 (Or.inl (List.mem_of_getElem? (i := 0) rfl))
  have OL17 := OL14.wr W17 pr13
  have N17 := Fr.snoc X17 N14 pr13
  have fc18 := (Fw14.other W17 (Or.inr (slot_ne (Or.inr (wd32 hw)) (Or.inr (wd34 hw)) (by decide) (t := .byte) (t' := (.array .byte)) (by decide) (by decide))))
  have fc19 := ((u10_1.other W14 (Ne.symm (Nat.ne_of_lt (Nat.lt_of_lt_of_le pr14.lt sz_b10_0)))).other W17 (Ne.symm (Nat.ne_of_lt (Nat.lt_of_lt_of_le pr14.lt sz_b10_0))))
  obtain ⟨fs, hr, hrun, hended, hW, hsame⟩ := X17.leave (v := none) (fun _ => rfl)
  refine ⟨_, _, pre0 _ ?_, hrun, hended, _, _, rfl, ?_, ⟨_, rfl⟩, hW, hsame.mono (by decide) (by decide)⟩
  · show SS p e below s₁ m 0 #[rv a1, rv a2, iv (0 : Int32), iv (3 : Int32), .val .null, .unset] [] _
    refine XS.aloadN X0.here hx rfl (hb hby d3_0) rfl rfl ?_
    show SS p e below s₁ m 1 #[rv a1, rv a2, iv (0 : Int32), iv (3 : Int32), .val .null, .unset] [(.ref a1)] _
    refine st3 _ ?_
    show SS p e below T3 m 4 #[rv a1, rv a2, iv (0 : Int32), iv (3 : Int32), .val .null, .unset] [] _
    refine XS.iloadN X3.here hx rfl (hb hby d3_4) rfl ?_
    show SS p e below T3 m 5 #[rv a1, rv a2, iv (0 : Int32), iv (3 : Int32), .val .null, .unset] [(.int (3 : Int32))] _
    refine XS.ifYes X3.here hx rfl (pc0 := 5) (pc' := 27) rfl (hb hby d3_5) rfl ((if0 _ _).trans (feq (by decide : ¬ ((3 : Int32) = (0 : Int32)))).2) (by decide) (by decide) ?_
    show SS p e below T3 m 27 #[rv a1, rv a2, iv (0 : Int32), iv (3 : Int32), .val .null, .unset] [] _
    refine st5 _ ?_
    show SS p e below T5 m 30 #[rv a1, rv a2, iv (0 : Int32), iv (3 : Int32), .val .null, .unset] [(.int p4)] _
    refine XS.ifNo X5.here hx rfl (hb hby d3_30) rfl ((if0 _ _).trans (feq pr2).1) ?_
    show SS p e below T5 m 33 #[rv a1, rv a2, iv (0 : Int32), iv (3 : Int32), .val .null, .unset] [] _
    refine XS.aloadN X5.here hx rfl (hb hby d3_33) rfl rfl ?_
    refine XS.iloadN X5.here hx rfl (hb hby d3_34) rfl ?_
    refine XS.iloadN X5.here hx rfl (hb hby d3_35) rfl ?_
    show SS p e below T5 m 36 #[rv a1, rv a2, iv (0 : Int32), iv (3 : Int32), .val .null, .unset] [(.int (3 : Int32)), (.int (0 : Int32)), (.ref a2)] _
    refine st10 _ ?_
    show SS p e below T10 m 39 #[rv a1, rv a2, iv (0 : Int32), iv (3 : Int32), .val .null, .unset] [(.ref b10_0)] _
    refine XS.astore X10.here hx rfl (hb hby d3_39) rfl rfl (l' := #[rv a1, rv a2, iv (0 : Int32), iv (3 : Int32), .val .null, rv b10_0]) rfl ?_
    refine XS.aloadN X10.here hx rfl (hb hby d3_41) rfl rfl ?_
    refine XS.aload X10.here hx rfl (hb hby d3_42) rfl rfl ?_
    refine XS.iloadN X10.here hx rfl (hb hby d3_44) rfl ?_
    show SS p e below T10 m 45 #[rv a1, rv a2, iv (0 : Int32), iv (3 : Int32), .val .null, rv b10_0] [(.int (3 : Int32)), (.ref b10_0), (.ref a1)] _
    refine st11 _ ?_
    show SS p e below T11 m 48 #[rv a1, rv a2, iv (0 : Int32), iv (3 : Int32), .val .null, rv b10_0] [(.int (1 : Int32)), (.ref a1)] _
    refine st14 _ ?_
    show SS p e below T14 m 51 #[rv a1, rv a2, iv (0 : Int32), iv (3 : Int32), .val .null, rv b10_0] [] _
    refine XS.aloadN X14.here hx rfl (hb hby d3_51) rfl rfl ?_
    refine XS.aload X14.here hx rfl (hb hby d3_52) rfl rfl ?_
    show SS p e below T14 m 54 #[rv a1, rv a2, iv (0 : Int32), iv (3 : Int32), .val .null, rv b10_0] [(.ref b10_0), (.ref a1)] _
    refine st17 _ ?_
    show SS p e below T17 m 57 #[rv a1, rv a2, iv (0 : Int32), iv (3 : Int32), .val .null, rv b10_0] [] _
    exact X17.returnOut hx Bd.returns (hb hby d3_57) hr
  · show Q_rm3_6 Z a1 a2 p4 p6 p7 p8 k9 h0 n0 _ T17.heap _
    rw [e17]
    exact ⟨b10_0, kx10_0, rfl, N17, KK17, sz_b10_0, fc18, Fw17, fc19⟩
def Q_rm2_6 (Z : State) (a1 : Addr) (a2 : Addr) (p3 : Int32) (p4 : Int32) (p5 : Int32) (k6 : ClassId) (p8 : Int32) (h0 : Heap) (n0 : Nat) (v : Option Value) (h : Heap) (L : List Loc) : Prop := ∃ b9_0 : Addr, ∃ kx9_0 : ClassId, v = none ∧ Fr n0 L ∧ Keep h0 h [a1] ∧ h0.size ≤ b9_0 ∧ Fld Z h a1 "java/lang/String" "coder" "B" (.int (1 : Int32)) ∧ Fld Z h a1 "java/lang/String" "value" "[B" (.ref b9_0) ∧ Arv Z h b9_0 kx9_0 .byte (6 : Int32) [(.int (((p3 >>> ((0 : Int32) &&& 31)).toInt8.toInt32).toInt8.toInt32)), (.int (((p3 >>> ((8 : Int32) &&& 31)).toInt8.toInt32).toInt8.toInt32)), (.int (((p4 >>> ((0 : Int32) &&& 31)).toInt8.toInt32).toInt8.toInt32)), (.int (((p4 >>> ((8 : Int32) &&& 31)).toInt8.toInt32).toInt8.toInt32)), (.int (((p5 >>> ((0 : Int32) &&& 31)).toInt8.toInt32).toInt8.toInt32)), (.int (((p5 >>> ((8 : Int32) &&& 31)).toInt8.toInt32).toInt8.toInt32))] (.int (0 : Int32))
set_option maxRecDepth 65536 in
set_option maxHeartbeats 40000000 in
theorem rm2_6 (l : Launch) (Z : State) (a0 : Array Value) (hw : ∀ d ∈ tables_1, d.before a0 Z = true) (ws : List Jvm.Cond) (a1 : Addr) (a2 : Addr) (p3 : Int32) (p4 : Int32) (p5 : Int32) (k6 : ClassId) (p8 : Int32) (h0 : Heap) (n0 : Nat) (OL0 : Old Z n0 h0) (pr1 : Arv Z h0 a2 k6 .char (3 : Int32) [(.int p3), (.int p4), (.int p5)] (.int (0 : Int32))) (pr2 : Sta Z Z.heap "java/lang/String" "COMPACT_STRINGS" "Z" (.int p8)) (pr3 : ¬ (p8 = (0 : Int32))) (pr4 : ¬ ((255 : Int32) < p3)) (pr5 : ¬ ((255 : Int32) < p4)) (pr6 : (255 : Int32) < p5) (pr7 : Sta Z Z.heap "java/lang/StringUTF16" "$assertionsDisabled" "Z" (.int (1 : Int32))) (pr8 : Sta Z Z.heap "java/lang/StringUTF16" "HI_BYTE_SHIFT" "I" (.int (0 : Int32))) (pr9 : Sta Z Z.heap "java/lang/StringUTF16" "LO_BYTE_SHIFT" "I" (.int (8 : Int32))) (pr10 : (255 : Int32) < (nar .char (((((((p5 >>> ((0 : Int32) &&& 31)).toInt8.toInt32).toInt8.toInt32) &&& (255 : Int32)) <<< ((0 : Int32) &&& 31)) ||| (((((p5 >>> ((8 : Int32) &&& 31)).toInt8.toInt32).toInt8.toInt32) &&& (255 : Int32)) <<< ((8 : Int32) &&& 31))).toUInt32.toUInt16.toUInt32.toInt32))) (pr11 : Exa Z h0 a1 "java/lang/String") (pr12 : Fld Z h0 a1 "java/lang/String" "coder" "B" (.int (0 : Int32))) (pr13 : n0 ≤ a1) (pr14 : Fld Z h0 a1 "java/lang/String" "value" "[B" .null) :
    MetFree l mn2 (head1 (Jvm.Cond.code mn2 jdk_42_method_3_code 2 none :: ws) ({ frames := 5, cells := 2, slots := 9, locals := 74 } : Room)) (fun a U => a = #[(.ref a1), (.ref a2)] ∧ Z.Warmed39 U.vm ∧ U.heap = h0) (fun _ _ _ _ _ => True) (fun _ U o U' => ∃ v L, o = .returned v ∧ Q_rm2_6 Z a1 a2 p3 p4 p5 k6 p8 h0 n0 v U'.heap L ∧ FrameEnd U o U' L ({ frames := 5, cells := 2, slots := 9, locals := 74 } : Room).cells ({ frames := 5, cells := 2, slots := 9, locals := 74 } : Room).slots) := by
  refine MetFree.of_bodySF (plainFor_of_name pn_0) hisR ?_
  intro p e s m args below meth c s₁ Bd hml0 hP hK
  obtain ⟨rfl, hZ, hh⟩ := hP
  have hx := Bd.exec
  have hby := Bd.bytes
  have hml : c.maxLocals = 2 := hml0
  have hown : s.vm.findClass "java/lang/String" = some m.cls := findClass_of_methodNamed Bd.named
  have hnm := (name_of_methodNamed Bd.named Bd.method).1
  have X0 : Stand p l e ({ frames := 5, cells := 2, slots := 9, locals := 74 } : Room) s m #[(.ref a1), (.ref a2)] below meth c s₁ [] 0 0 := Stand.of_body Bd
  have e0 : s₁.heap = h0 := by rw [← hh, Bd.state]; rfl
  have N0 := Fr.nil n0
  have pre0 : ∀ t, SS p e below s₁ m 0 #[rv a1, rv a2] [] t → Steps p.tables e below (s₁.setTop (entryFrame m #[(.ref a1), (.ref a2)] 2)) t := fun t k => castTop (ef_2_1 m a1 a2) k
  obtain ⟨cl7, Ar7, -, Sz7, Nn7, -, -⟩ := id pr1
  obtain ⟨_, _, ⟨T9, L9, k9, n9⟩, -, X9, ⟨Lc9, hQ9, l9, y9, z9⟩, st9⟩ := X0.specialBack hx (y := mn3) rfl hown (mvT hZ (wd12 hw)) (mvT hZ (wd13 hw)) (mvT hZ (wd15 hw)) (by decide) (backOf (W := 0) (rm3_6 l Z a0 hw [] a1 a2 p8 p3 p4 p5 k6 h0 n0 OL0 pr2 pr3 pr1 pr4 pr5 pr6 pr7 pr8 pr9 pr10 pr11 pr12 pr13 pr14) hZ (wd15 hw) (wd7 hw) (by decide) (by decide)) (g := (mkF m 6 #[rv a1, rv a2] [.null, (.int (3 : Int32)), (.int (0 : Int32)), (.ref a2), (.ref a1)])) rfl (by rw [hml]; rfl) (Steps.refl _) (a := a1) (argsL := [(.ref a2), (.int (0 : Int32)), (.int (3 : Int32)), .null]) (rest := []) (lenOf pd_0 rfl) rfl (by show 2 * 0 + _ ≤ _; exact Nat.le_of_eq rfl) (hb hby d2_6) (fun _ _ => ⟨rfl, e0, (by decide : 0 + 2 ≤ _), (by decide : 0 + 9 ≤ _)⟩)
  dsimp only [Pt.U, Pt.locs, Pt.cells, Pt.slots] at X9 l9 y9 z9 st9 hQ9
  subst l9 y9 z9
  obtain ⟨b9_0, kx9_0, rfl, Nq9, K9, u9_0, u9_1, u9_2, u9_3⟩ := hQ9
  have KK9 : Keep h0 T9.heap [a1] := (Keep.refl h0 [a1]).trans K9 (allS (Or.inl (List.mem_of_getElem? (i := 0) rfl)) all0)
  have OL9 := OL0.keep K9 (allS pr13 all0)
  have g_b9_0 : n0 ≤ b9_0 := Nat.le_trans (Nat.le_trans (Nat.le_of_eq OL0.1.symm) OL0.2.1) u9_0
  have sz_b9_0 : h0.size ≤ b9_0 := Nat.le_trans (Keep.refl h0 [a1]).1 u9_0
  have N9 := Fr.app N0 Nq9
  obtain ⟨fs, hr, hrun, hended, hW, hsame⟩ := X9.leave (v := none) (fun _ => rfl)
  refine ⟨_, _, pre0 _ ?_, hrun, hended, _, _, rfl, ?_, ⟨_, rfl⟩, hW, hsame.mono (by decide) (by decide)⟩
  · show SS p e below s₁ m 0 #[rv a1, rv a2] [] _
    refine XS.aloadN X0.here hx rfl (hb hby d2_0) rfl rfl ?_
    refine XS.aloadN X0.here hx rfl (hb hby d2_1) rfl rfl ?_
    refine XS.iconst X0.here hx rfl (hb hby d2_2) ?_
    refine XS.aloadN X0.here hx rfl (hb hby d2_3) rfl rfl ?_
    show SS p e below s₁ m 4 #[rv a1, rv a2] [(.ref a2), (.int (0 : Int32)), (.ref a2), (.ref a1)] _
    refine X0.arraylength hx (by rw [e0]; exact Ar7.1) (State.isArrayOf_alike hZ.alike Ar7.2.1) (g := (mkF m 4 #[rv a1, rv a2] [(.ref a2), (.int (0 : Int32)), (.ref a2), (.ref a1)])) rfl rfl (hb hby d2_4) _ ?_
    rw [len_of Sz7 Nn7]
    show SS p e below s₁ m 5 #[rv a1, rv a2] [(.int (3 : Int32)), (.int (0 : Int32)), (.ref a2), (.ref a1)] _
    refine XS.aconstNull X0.here hx rfl (hb hby d2_5) ?_
    show SS p e below s₁ m 6 #[rv a1, rv a2] [.null, (.int (3 : Int32)), (.int (0 : Int32)), (.ref a2), (.ref a1)] _
    refine st9.trans ?_
    show SS p e below T9 m 9 #[rv a1, rv a2] [] _
    exact X9.returnOut hx Bd.returns (hb hby d2_9) hr
  · show Q_rm2_6 Z a1 a2 p3 p4 p5 k6 p8 h0 n0 _ T9.heap _
    exact ⟨b9_0, kx9_0, rfl, N9, KK9, sz_b9_0, u9_1, u9_2, u9_3⟩
def Q_rm1_8 (Z : State) (p1 : Int32) (p2 : Int32) (p3 : Int32) (p12 : Int32) (h0 : Heap) (n0 : Nat) (v : Option Value) (h : Heap) (L : List Loc) : Prop := ∃ b4 : Addr, ∃ b13_0 : Addr, ∃ kx13_0 : ClassId, v = some (.ref b4) ∧ Fr n0 L ∧ Keep h0 h [] ∧ h0.size ≤ b4 ∧ h0.size ≤ b13_0 ∧ b4 ≠ b13_0 ∧ Exa Z h b4 "java/lang/String" ∧ Fld Z h b4 "java/lang/String" "coder" "B" (.int (1 : Int32)) ∧ Fld Z h b4 "java/lang/String" "value" "[B" (.ref b13_0) ∧ Arv Z h b13_0 kx13_0 .byte (6 : Int32) [(.int ((((nar .char p1) >>> ((0 : Int32) &&& 31)).toInt8.toInt32).toInt8.toInt32)), (.int ((((nar .char p1) >>> ((8 : Int32) &&& 31)).toInt8.toInt32).toInt8.toInt32)), (.int ((((nar .char p2) >>> ((0 : Int32) &&& 31)).toInt8.toInt32).toInt8.toInt32)), (.int ((((nar .char p2) >>> ((8 : Int32) &&& 31)).toInt8.toInt32).toInt8.toInt32)), (.int ((((nar .char p3) >>> ((0 : Int32) &&& 31)).toInt8.toInt32).toInt8.toInt32)), (.int ((((nar .char p3) >>> ((8 : Int32) &&& 31)).toInt8.toInt32).toInt8.toInt32))] (.int (0 : Int32))
set_option maxRecDepth 65536 in
set_option maxHeartbeats 40000000 in
theorem rm1_8 (l : Launch) (Z : State) (a0 : Array Value) (hw : ∀ d ∈ tables_1, d.before a0 Z = true) (ws : List Jvm.Cond) (p1 : Int32) (p2 : Int32) (p3 : Int32) (p12 : Int32) (h0 : Heap) (n0 : Nat) (OL0 : Old Z n0 h0) (pr1 : Sta Z Z.heap "java/lang/String" "COMPACT_STRINGS" "Z" (.int p12)) (pr2 : ¬ (p12 = (0 : Int32))) (pr3 : ¬ ((255 : Int32) < (nar .char p1))) (pr4 : ¬ ((255 : Int32) < (nar .char p2))) (pr5 : (255 : Int32) < (nar .char p3)) (pr6 : Sta Z Z.heap "java/lang/StringUTF16" "$assertionsDisabled" "Z" (.int (1 : Int32))) (pr7 : Sta Z Z.heap "java/lang/StringUTF16" "HI_BYTE_SHIFT" "I" (.int (0 : Int32))) (pr8 : Sta Z Z.heap "java/lang/StringUTF16" "LO_BYTE_SHIFT" "I" (.int (8 : Int32))) (pr9 : (255 : Int32) < (nar .char ((((((((nar .char p3) >>> ((0 : Int32) &&& 31)).toInt8.toInt32).toInt8.toInt32) &&& (255 : Int32)) <<< ((0 : Int32) &&& 31)) ||| ((((((nar .char p3) >>> ((8 : Int32) &&& 31)).toInt8.toInt32).toInt8.toInt32) &&& (255 : Int32)) <<< ((8 : Int32) &&& 31))).toUInt32.toUInt16.toUInt32.toInt32))) :
    MetFree l mn1 (head1 (Jvm.Cond.code mn1 method_2_code 4 (some (.object "java/lang/String")) :: ws) ({ frames := 6, cells := 4, slots := 16, locals := 88 } : Room)) (fun a U => a = #[(.int (3 : Int32)), (.int p1), (.int p2), (.int p3)] ∧ Z.Warmed39 U.vm ∧ U.heap = h0) (fun _ _ _ _ _ => True) (fun _ U o U' => ∃ v L, o = .returned v ∧ Q_rm1_8 Z p1 p2 p3 p12 h0 n0 v U'.heap L ∧ FrameEnd U o U' L ({ frames := 6, cells := 4, slots := 16, locals := 88 } : Room).cells ({ frames := 6, cells := 4, slots := 16, locals := 88 } : Room).slots) := by
  refine MetFree.of_bodySF (plainFor_of_name pn_1) hisR ?_
  intro p e s m args below meth c s₁ Bd hml0 hP hK
  obtain ⟨rfl, hZ, hh⟩ := hP
  have hx := Bd.exec
  have hby := Bd.bytes
  have hml : c.maxLocals = 4 := hml0
  have hown : s.vm.findClass "com/example/aeroslice/aeroslice/SrsDefaultsOfPinLaw" = some m.cls := findClass_of_methodNamed Bd.named
  have hnm := (name_of_methodNamed Bd.named Bd.method).1
  have X0 : Stand p l e ({ frames := 6, cells := 4, slots := 16, locals := 88 } : Room) s m #[(.int (3 : Int32)), (.int p1), (.int p2), (.int p3)] below meth c s₁ [] 0 0 := Stand.of_body Bd
  have e0 : s₁.heap = h0 := by rw [← hh, Bd.state]; rfl
  have N0 := Fr.nil n0
  have pre0 : ∀ t, SS p e below s₁ m 0 #[iv (3 : Int32), iv p1, iv p2, iv p3] [] t → Steps p.tables e below (s₁.setTop (entryFrame m #[(.int (3 : Int32)), (.int p1), (.int p2), (.int p3)] 4)) t := fun t k => castTop (ef_1_36 m p1 p2 p3) k
  obtain ⟨T4, h4, X4, e4, E4, A4, D4, -, st4⟩ := newO X0 hx hZ hown (wd5 hw) (wd6 hw) (wd7 hw) e0 (g := (mkF m 49 #[iv (3 : Int32), iv p1, iv p2, iv p3] [])) rfl (hb hby d1_49) (by decide) (by decide)
  obtain ⟨b4, g4⟩ : ∃ z, z = h0.size := ⟨_, rfl⟩
  rw [← g4] at A4 D4 st4
  have g_b4 : n0 ≤ b4 := (Nat.le_trans (Nat.le_trans (Nat.le_of_eq OL0.1.symm) OL0.2.1) (Nat.le_of_eq g4.symm))
  have sz_b4 : h0.size ≤ b4 := (Nat.le_trans (Keep.refl h0 []).1 (Nat.le_of_eq g4.symm))
  have KK4 : Keep h0 h4 [] := (Keep.refl h0 []).ext E4
  have OL4 := OL0.ext E4
  have F_coder_b4 : Fld Z h4 b4 "java/lang/String" "coder" "B" (.int (0 : Int32)) := D4 (Or.inr (wd32 hw)) (ty := .byte) (by decide)
  have F_value_b4 : Fld Z h4 b4 "java/lang/String" "value" "[B" .null := D4 (Or.inr (wd34 hw)) (ty := (.array .byte)) (by decide)
  obtain ⟨T5, h5, k5, X5, e5, E5, A5, st5⟩ := newP (aty := .char) X4 hx hZ (wd8 hw) e4 (g := (mkF m 54 #[iv (3 : Int32), iv p1, iv p2, iv p3] [(.int (3 : Int32)), (.ref b4), (.ref b4)])) rfl (hb hby d1_54) rfl (by decide) (cap := 3) (by decide) (by decide) (by decide) (by decide)
  obtain ⟨b5, g5⟩ : ∃ z, z = h4.size := ⟨_, rfl⟩
  rw [← g5] at A5 st5
  have V5 : Arv Z h5 b5 k5 .char (3 : Int32) [(.int (0 : Int32)), (.int (0 : Int32)), (.int (0 : Int32))] (.int (0 : Int32)) := (Arv.new A5 (by decide)).pad (pad_rep [] (.int (0 : Int32)) 3)
  have g_b5 : n0 ≤ b5 := (Nat.le_trans (Nat.le_trans (Nat.le_of_eq OL4.1.symm) OL4.2.1) (Nat.le_of_eq g5.symm))
  have sz_b5 : h0.size ≤ b5 := (Nat.le_trans KK4.1 (Nat.le_of_eq g5.symm))
  have KK5 : Keep h0 h5 [] := KK4.ext E5
  have OL5 := OL4.ext E5
  obtain ⟨cl6, Ar6, q6, S6, M6, Hs6, G6⟩ := id V5
  have hin6 : ¬ ((0 : Int32) < 0 ∨ cl6.slots.size ≤ ((0 : Int32)).toNatClampNeg) := inb_of S6 ⟨by decide, by decide⟩
  obtain ⟨T7, h7, X7, e7, W7, st7⟩ := stC X5 hx hZ e5 Ar6 (j := (0 : Int32)) hin6 (g := (mkF m 59 #[iv (3 : Int32), iv p1, iv p2, iv p3] [(.int p1), (.int (0 : Int32)), (.ref b5), (.ref b5), (.ref b4), (.ref b4)])) rfl rfl (hb hby d1_59)
  have V7 : Arv Z h7 b5 k5 .char (3 : Int32) [(.int (nar .char p1)), (.int (0 : Int32)), (.int (0 : Int32))] (.int (0 : Int32)) := Arv.set Ar6 q6 S6 M6 Hs6 G6 (fits_nar_char _) W7 0 rfl (Nat.le_of_ble_eq_true rfl)
  have KK7 : Keep h0 h7 [] := KK5.wr W7 (Or.inr sz_b5)
  have OL7 := OL5.wr W7 g_b5
  have N7 := Fr.snoc X7 N0 g_b5
  obtain ⟨cl8, Ar8, q8, S8, M8, Hs8, G8⟩ := id V7
  have hin8 : ¬ ((1 : Int32) < 0 ∨ cl8.slots.size ≤ ((1 : Int32)).toNatClampNeg) := inb_of S8 ⟨by decide, by decide⟩
  obtain ⟨T9, h9, X9, e9, W9, st9⟩ := stC X7 hx hZ e7 Ar8 (j := (1 : Int32)) hin8 (g := (mkF m 63 #[iv (3 : Int32), iv p1, iv p2, iv p3] [(.int p2), (.int (1 : Int32)), (.ref b5), (.ref b5), (.ref b4), (.ref b4)])) rfl rfl (hb hby d1_63)
  have V9 : Arv Z h9 b5 k5 .char (3 : Int32) [(.int (nar .char p1)), (.int (nar .char p2)), (.int (0 : Int32))] (.int (0 : Int32)) := Arv.set Ar8 q8 S8 M8 Hs8 G8 (fits_nar_char _) W9 1 rfl (Nat.le_of_ble_eq_true rfl)
  have KK9 : Keep h0 h9 [] := KK7.wr W9 (Or.inr sz_b5)
  have OL9 := OL7.wr W9 g_b5
  have N9 := Fr.snoc X9 N7 g_b5
  obtain ⟨cl10, Ar10, q10, S10, M10, Hs10, G10⟩ := id V9
  have hin10 : ¬ ((2 : Int32) < 0 ∨ cl10.slots.size ≤ ((2 : Int32)).toNatClampNeg) := inb_of S10 ⟨by decide, by decide⟩
  obtain ⟨T11, h11, X11, e11, W11, st11⟩ := stC X9 hx hZ e9 Ar10 (j := (2 : Int32)) hin10 (g := (mkF m 67 #[iv (3 : Int32), iv p1, iv p2, iv p3] [(.int p3), (.int (2 : Int32)), (.ref b5), (.ref b5), (.ref b4), (.ref b4)])) rfl rfl (hb hby d1_67)
  have V11 : Arv Z h11 b5 k5 .char (3 : Int32) [(.int (nar .char p1)), (.int (nar .char p2)), (.int (nar .char p3))] (.int (0 : Int32)) := Arv.set Ar10 q10 S10 M10 Hs10 G10 (fits_nar_char _) W11 2 rfl (Nat.le_of_ble_eq_true rfl)
  have KK11 : Keep h0 h11 [] := KK9.wr W11 (Or.inr sz_b5)
  have OL11 := OL9.wr W11 g_b5
  have N11 := Fr.snoc X11 N9 g_b5
  have fc14 := ((((A4.ext E5).wr W7).wr W9).wr W11)
  have fc15 := ((((F_coder_b4.ext E5).other W7 (Or.inl (Nat.ne_of_lt (Nat.lt_of_lt_of_le F_value_b4.lt (Nat.le_of_eq g5.symm))))).other W9 (Or.inl (Nat.ne_of_lt (Nat.lt_of_lt_of_le F_value_b4.lt (Nat.le_of_eq g5.symm))))).other W11 (Or.inl (Nat.ne_of_lt (Nat.lt_of_lt_of_le F_value_b4.lt (Nat.le_of_eq g5.symm)))))
  have fc16 := ((((F_value_b4.ext E5).other W7 (Or.inl (Nat.ne_of_lt (Nat.lt_of_lt_of_le F_value_b4.lt (Nat.le_of_eq g5.symm))))).other W9 (Or.inl (Nat.ne_of_lt (Nat.lt_of_lt_of_le F_value_b4.lt (Nat.le_of_eq g5.symm))))).other W11 (Or.inl (Nat.ne_of_lt (Nat.lt_of_lt_of_le F_value_b4.lt (Nat.le_of_eq g5.symm)))))
  obtain ⟨_, _, ⟨T13, L13, k13, n13⟩, -, X13, ⟨Lc13, hQ13, l13, y13, z13⟩, st13⟩ := X11.specialBack hx (y := mn2) rfl hown (mvT hZ (wd9 hw)) (mvT hZ (wd10 hw)) (mvT hZ (wd11 hw)) (by decide) (backOf (W := 1) (rm2_6 l Z a0 hw [] b4 b5 (nar .char p1) (nar .char p2) (nar .char p3) k5 p12 h11 n0 OL11 V11 pr1 pr2 pr3 pr4 pr5 pr6 pr7 pr8 pr9 fc14 fc15 g_b4 fc16) hZ (wd11 hw) (wd7 hw) (by decide) (by decide)) (g := (mkF m 68 #[iv (3 : Int32), iv p1, iv p2, iv p3] [(.ref b5), (.ref b4), (.ref b4)])) rfl (by rw [hml]; rfl) (Steps.refl _) (a := b4) (argsL := [(.ref b5)]) (rest := [(.ref b4)]) (lenOf pd_1 rfl) rfl (by show 2 * 0 + _ ≤ _; exact Nat.le_of_eq rfl) (hb hby d1_68) (fun _ _ => ⟨rfl, e11, (by decide : 2 + 2 ≤ _), (by decide : 7 + 9 ≤ _)⟩)
  dsimp only [Pt.U, Pt.locs, Pt.cells, Pt.slots] at X13 l13 y13 z13 st13 hQ13
  subst l13 y13 z13
  obtain ⟨b13_0, kx13_0, rfl, Nq13, K13, u13_0, u13_1, u13_2, u13_3⟩ := hQ13
  have KK13 : Keep h0 T13.heap [] := KK11.trans K13 (allS (Or.inr sz_b4) all0)
  have OL13 := OL11.keep K13 (allS g_b4 all0)
  have g_b13_0 : n0 ≤ b13_0 := Nat.le_trans (Nat.le_trans (Nat.le_of_eq OL11.1.symm) OL11.2.1) u13_0
  have sz_b13_0 : h0.size ≤ b13_0 := Nat.le_trans KK11.1 u13_0
  have N13 := Fr.app N11 Nq13
  have fc17 := (fc14.keep K13)
  obtain ⟨fs, hr, hrun, hended, hW, hsame⟩ := X13.leave (v := some (.ref b4)) (fun h => by rw [Bd.returns] at h; cases h)
  refine ⟨_, _, pre0 _ ?_, hrun, hended, _, _, rfl, ?_, ⟨_, rfl⟩, hW, hsame.mono (by decide) (by decide)⟩
  · show SS p e below s₁ m 0 #[iv (3 : Int32), iv p1, iv p2, iv p3] [] _
    refine XS.iloadN X0.here hx rfl (hb hby d1_0) rfl ?_
    show SS p e below s₁ m 1 #[iv (3 : Int32), iv p1, iv p2, iv p3] [(.int (3 : Int32))] _
    refine XS.ifYes X0.here hx rfl (pc0 := 1) (pc' := 15) rfl (hb hby d1_1) rfl ((if0 _ _).trans (feq (by decide : ¬ ((3 : Int32) = (0 : Int32)))).2) (by decide) (by decide) ?_
    show SS p e below s₁ m 15 #[iv (3 : Int32), iv p1, iv p2, iv p3] [] _
    refine XS.iloadN X0.here hx rfl (hb hby d1_15) rfl ?_
    refine XS.iconst X0.here hx rfl (hb hby d1_16) ?_
    show SS p e below s₁ m 17 #[iv (3 : Int32), iv p1, iv p2, iv p3] [(.int (1 : Int32)), (.int (3 : Int32))] _
    refine XS.icmpYes X0.here hx rfl (pc0 := 17) (pc' := 25) rfl (hb hby d1_17) rfl (feq (by decide : ¬ ((3 : Int32) = (1 : Int32)))).2 (by decide) (by decide) ?_
    show SS p e below s₁ m 25 #[iv (3 : Int32), iv p1, iv p2, iv p3] [] _
    refine XS.iloadN X0.here hx rfl (hb hby d1_25) rfl ?_
    refine XS.iconst X0.here hx rfl (hb hby d1_26) ?_
    show SS p e below s₁ m 27 #[iv (3 : Int32), iv p1, iv p2, iv p3] [(.int (2 : Int32)), (.int (3 : Int32))] _
    refine XS.icmpYes X0.here hx rfl (pc0 := 27) (pc' := 49) rfl (hb hby d1_27) rfl (feq (by decide : ¬ ((3 : Int32) = (2 : Int32)))).2 (by decide) (by decide) ?_
    show SS p e below s₁ m 49 #[iv (3 : Int32), iv p1, iv p2, iv p3] [] _
    refine st4 _ ?_
    show SS p e below T4 m 52 #[iv (3 : Int32), iv p1, iv p2, iv p3] [(.ref b4)] _
    refine XS.dup X4.here hx rfl (hb hby d1_52) rfl rfl ?_
    refine XS.iconst X4.here hx rfl (hb hby d1_53) ?_
    show SS p e below T4 m 54 #[iv (3 : Int32), iv p1, iv p2, iv p3] [(.int (3 : Int32)), (.ref b4), (.ref b4)] _
    refine st5 _ ?_
    show SS p e below T5 m 56 #[iv (3 : Int32), iv p1, iv p2, iv p3] [(.ref b5), (.ref b4), (.ref b4)] _
    refine XS.dup X5.here hx rfl (hb hby d1_56) rfl rfl ?_
    refine XS.iconst X5.here hx rfl (hb hby d1_57) ?_
    refine XS.iloadN X5.here hx rfl (hb hby d1_58) rfl ?_
    show SS p e below T5 m 59 #[iv (3 : Int32), iv p1, iv p2, iv p3] [(.int p1), (.int (0 : Int32)), (.ref b5), (.ref b5), (.ref b4), (.ref b4)] _
    refine st7 _ ?_
    show SS p e below T7 m 60 #[iv (3 : Int32), iv p1, iv p2, iv p3] [(.ref b5), (.ref b4), (.ref b4)] _
    refine XS.dup X7.here hx rfl (hb hby d1_60) rfl rfl ?_
    refine XS.iconst X7.here hx rfl (hb hby d1_61) ?_
    refine XS.iloadN X7.here hx rfl (hb hby d1_62) rfl ?_
    show SS p e below T7 m 63 #[iv (3 : Int32), iv p1, iv p2, iv p3] [(.int p2), (.int (1 : Int32)), (.ref b5), (.ref b5), (.ref b4), (.ref b4)] _
    refine st9 _ ?_
    show SS p e below T9 m 64 #[iv (3 : Int32), iv p1, iv p2, iv p3] [(.ref b5), (.ref b4), (.ref b4)] _
    refine XS.dup X9.here hx rfl (hb hby d1_64) rfl rfl ?_
    refine XS.iconst X9.here hx rfl (hb hby d1_65) ?_
    refine XS.iloadN X9.here hx rfl (hb hby d1_66) rfl ?_
    show SS p e below T9 m 67 #[iv (3 : Int32), iv p1, iv p2, iv p3] [(.int p3), (.int (2 : Int32)), (.ref b5), (.ref b5), (.ref b4), (.ref b4)] _
    refine st11 _ ?_
    show SS p e below T11 m 68 #[iv (3 : Int32), iv p1, iv p2, iv p3] [(.ref b5), (.ref b4), (.ref b4)] _
    refine st13.trans ?_
    show SS p e below T13 m 71 #[iv (3 : Int32), iv p1, iv p2, iv p3] [(.ref b4)] _
    jvm_step X13.here [X13.here.top, hx, (hb hby d1_71), X13.method', Bd.returns, Value.isRef, FieldType.isReference]
    first | (intro acts; rw [hr _ acts rfl rfl rfl]) | rw [hr _ _ rfl rfl rfl]
    exact Steps.refl _
  · show Q_rm1_8 Z p1 p2 p3 p12 h0 n0 _ T13.heap _
    exact ⟨b4, b13_0, kx13_0, rfl, N13, KK13, sz_b4, sz_b13_0, (Nat.ne_of_lt (Nat.lt_of_lt_of_le (Nat.lt_of_lt_of_le (Nat.lt_of_lt_of_le (Nat.lt_of_lt_of_le (Nat.lt_of_lt_of_le F_value_b4.lt E5.1) (Nat.le_of_eq W7.size.symm)) (Nat.le_of_eq W9.size.symm)) (Nat.le_of_eq W11.size.symm)) u13_0)), fc17, u13_1, u13_2, u13_3⟩
def Q_rm6_6 (Z : State) (a1 : Addr) (a2 : Addr) (p3 : Int32) (p4 : Int32) (p5 : Int32) (k6 : ClassId) (k8 : ClassId) (h0 : Heap) (n0 : Nat) (v : Option Value) (h : Heap) (L : List Loc) : Prop := v = some (.int (3 : Int32)) ∧ Fr n0 L ∧ Keep h0 h [a2] ∧ Arv Z h a2 k8 .byte (3 : Int32) [(.int ((p3.toInt8.toInt32).toInt8.toInt32)), (.int ((p4.toInt8.toInt32).toInt8.toInt32)), (.int ((p5.toInt8.toInt32).toInt8.toInt32))] (.int (0 : Int32))
set_option maxRecDepth 65536 in
set_option maxHeartbeats 40000000 in
theorem rm6_6 (l : Launch) (Z : State) (a0 : Array Value) (hw : ∀ d ∈ tables_1, d.before a0 Z = true) (ws : List Jvm.Cond) (a1 : Addr) (a2 : Addr) (p3 : Int32) (p4 : Int32) (p5 : Int32) (k6 : ClassId) (k8 : ClassId) (h0 : Heap) (n0 : Nat) (OL0 : Old Z n0 h0) (pr1 : Arv Z h0 a1 k6 .char (3 : Int32) [(.int p3), (.int p4), (.int p5)] (.int (0 : Int32))) (pr2 : ¬ ((255 : Int32) < p3)) (pr3 : Arv Z h0 a2 k8 .byte (3 : Int32) [(.int (0 : Int32)), (.int (0 : Int32)), (.int (0 : Int32))] (.int (0 : Int32))) (pr4 : n0 ≤ a2) (pr5 : a1 ≠ a2) (pr6 : ¬ ((255 : Int32) < p4)) (pr7 : ¬ ((255 : Int32) < p5)) :
    MetFree l mn6 (head1 (Jvm.Cond.code mn6 jdk_52_method_21_code 7 (some .int) :: ws) ({ frames := 0, cells := 0, slots := 0, locals := 0 } : Room)) (fun a U => a = #[(.ref a1), (.int (0 : Int32)), (.ref a2), (.int (0 : Int32)), (.int (3 : Int32))] ∧ Z.Warmed39 U.vm ∧ U.heap = h0) (fun _ _ _ _ _ => True) (fun _ U o U' => ∃ v L, o = .returned v ∧ Q_rm6_6 Z a1 a2 p3 p4 p5 k6 k8 h0 n0 v U'.heap L ∧ FrameEnd U o U' L ({ frames := 0, cells := 0, slots := 0, locals := 0 } : Room).cells ({ frames := 0, cells := 0, slots := 0, locals := 0 } : Room).slots) := by
  refine MetFree.of_bodySF (plainFor_of_name pn_6) hisR ?_
  intro p e s m args below meth c s₁ Bd hml0 hP hK
  obtain ⟨rfl, hZ, hh⟩ := hP
  have hx := Bd.exec
  have hby := Bd.bytes
  have hml : c.maxLocals = 7 := hml0
  have hown : s.vm.findClass "java/lang/StringUTF16" = some m.cls := findClass_of_methodNamed Bd.named
  have hnm := (name_of_methodNamed Bd.named Bd.method).1
  have X0 : Stand p l e ({ frames := 0, cells := 0, slots := 0, locals := 0 } : Room) s m #[(.ref a1), (.int (0 : Int32)), (.ref a2), (.int (0 : Int32)), (.int (3 : Int32))] below meth c s₁ [] 0 0 := Stand.of_body Bd
  have e0 : s₁.heap = h0 := by rw [← hh, Bd.state]; rfl
  have N0 := Fr.nil n0
  have pre0 : ∀ t, SS p e below s₁ m 0 #[rv a1, iv (0 : Int32), rv a2, iv (0 : Int32), iv (3 : Int32), .unset, .unset] [] t → Steps p.tables e below (s₁.setTop (entryFrame m #[(.ref a1), (.int (0 : Int32)), (.ref a2), (.int (0 : Int32)), (.int (3 : Int32))] 7)) t := fun t k => castTop (ef_6_28 m a1 a2) k
  obtain ⟨cl7, Ar7, -, S7, -, Hs7, -⟩ := id pr1
  have hin7 : ¬ ((0 : Int32) < 0 ∨ cl7.slots.size ≤ ((0 : Int32)).toNatClampNeg) := inb_of S7 ⟨by decide, by decide⟩
  have hat7 : cl7.slots[((0 : Int32)).toNatClampNeg]? = some (.int p3) := Hs7.at hin7 rfl
  obtain ⟨cl9, Ar9, q9, S9, M9, Hs9, G9⟩ := id pr3
  have hin9 : ¬ ((0 : Int32) < 0 ∨ cl9.slots.size ≤ ((0 : Int32)).toNatClampNeg) := inb_of S9 ⟨by decide, by decide⟩
  obtain ⟨T10, h10, X10, e10, W10, st10⟩ := stB X0 hx hZ e0 Ar9 (j := (0 : Int32)) hin9 (g := (mkF m 31 #[rv a1, iv (0 : Int32), rv a2, iv (0 : Int32), iv (3 : Int32), iv (0 : Int32), iv p3] [(.int (p3.toInt8.toInt32)), (.int (0 : Int32)), (.ref a2)])) rfl rfl (hb hby d6_31)
  have V10 : Arv Z h10 a2 k8 .byte (3 : Int32) [(.int ((p3.toInt8.toInt32).toInt8.toInt32)), (.int (0 : Int32)), (.int (0 : Int32))] (.int (0 : Int32)) := Arv.set Ar9 q9 S9 M9 Hs9 G9 (fits_nar_byte _) W10 0 rfl (Nat.le_of_ble_eq_true rfl)
  have KK10 : Keep h0 h10 [a2] := (Keep.refl h0 [a2]).wr W10 (Or.inl (List.mem_of_getElem? (i := 0) rfl))
  have OL10 := OL0.wr W10 pr4
  have N10 := Fr.snoc X10 N0 pr4
  have fc11 := (pr1.other W10 pr5)
  obtain ⟨cl12, Ar12, -, S12, -, Hs12, -⟩ := id fc11
  have hin12 : ¬ ((1 : Int32) < 0 ∨ cl12.slots.size ≤ ((1 : Int32)).toNatClampNeg) := inb_of S12 ⟨by decide, by decide⟩
  have hat12 : cl12.slots[((1 : Int32)).toNatClampNeg]? = some (.int p4) := Hs12.at hin12 rfl
  obtain ⟨cl13, Ar13, q13, S13, M13, Hs13, G13⟩ := id V10
  have hin13 : ¬ ((1 : Int32) < 0 ∨ cl13.slots.size ≤ ((1 : Int32)).toNatClampNeg) := inb_of S13 ⟨by decide, by decide⟩
  obtain ⟨T14, h14, X14, e14, W14, st14⟩ := stB X10 hx hZ e10 Ar13 (j := (1 : Int32)) hin13 (g := (mkF m 31 #[rv a1, iv (1 : Int32), rv a2, iv (1 : Int32), iv (3 : Int32), iv (1 : Int32), iv p4] [(.int (p4.toInt8.toInt32)), (.int (1 : Int32)), (.ref a2)])) rfl rfl (hb hby d6_31)
  have V14 : Arv Z h14 a2 k8 .byte (3 : Int32) [(.int ((p3.toInt8.toInt32).toInt8.toInt32)), (.int ((p4.toInt8.toInt32).toInt8.toInt32)), (.int (0 : Int32))] (.int (0 : Int32)) := Arv.set Ar13 q13 S13 M13 Hs13 G13 (fits_nar_byte _) W14 1 rfl (Nat.le_of_ble_eq_true rfl)
  have KK14 : Keep h0 h14 [a2] := KK10.wr W14 (Or.inl (List.mem_of_getElem? (i := 0) rfl))
  have OL14 := OL10.wr W14 pr4
  have N14 := Fr.snoc X14 N10 pr4
  have fc15 := (fc11.other W14 pr5)
  obtain ⟨cl16, Ar16, -, S16, -, Hs16, -⟩ := id fc15
  have hin16 : ¬ ((2 : Int32) < 0 ∨ cl16.slots.size ≤ ((2 : Int32)).toNatClampNeg) := inb_of S16 ⟨by decide, by decide⟩
  have hat16 : cl16.slots[((2 : Int32)).toNatClampNeg]? = some (.int p5) := Hs16.at hin16 rfl
  obtain ⟨cl17, Ar17, q17, S17, M17, Hs17, G17⟩ := id V14
  have hin17 : ¬ ((2 : Int32) < 0 ∨ cl17.slots.size ≤ ((2 : Int32)).toNatClampNeg) := inb_of S17 ⟨by decide, by decide⟩
  obtain ⟨T18, h18, X18, e18, W18, st18⟩ := stB X14 hx hZ e14 Ar17 (j := (2 : Int32)) hin17 (g := (mkF m 31 #[rv a1, iv (2 : Int32), rv a2, iv (2 : Int32), iv (3 : Int32), iv (2 : Int32), iv p5] [(.int (p5.toInt8.toInt32)), (.int (2 : Int32)), (.ref a2)])) rfl rfl (hb hby d6_31)
  have V18 : Arv Z h18 a2 k8 .byte (3 : Int32) [(.int ((p3.toInt8.toInt32).toInt8.toInt32)), (.int ((p4.toInt8.toInt32).toInt8.toInt32)), (.int ((p5.toInt8.toInt32).toInt8.toInt32))] (.int (0 : Int32)) := Arv.set Ar17 q17 S17 M17 Hs17 G17 (fits_nar_byte _) W18 2 rfl (Nat.le_of_ble_eq_true rfl)
  have KK18 : Keep h0 h18 [a2] := KK14.wr W18 (Or.inl (List.mem_of_getElem? (i := 0) rfl))
  have OL18 := OL14.wr W18 pr4
  have N18 := Fr.snoc X18 N14 pr4
  obtain ⟨fs, hr, hrun, hended, hW, hsame⟩ := X18.leave (v := some (.int (3 : Int32))) (fun h => by rw [Bd.returns] at h; cases h)
  refine ⟨_, _, pre0 _ ?_, hrun, hended, _, _, rfl, ?_, ⟨_, rfl⟩, hW, hsame.mono (by decide) (by decide)⟩
  · show SS p e below s₁ m 0 #[rv a1, iv (0 : Int32), rv a2, iv (0 : Int32), iv (3 : Int32), .unset, .unset] [] _
    refine XS.iconst X0.here hx rfl (hb hby d6_0) ?_
    refine XS.istore X0.here hx rfl (hb hby d6_1) rfl (l' := #[rv a1, iv (0 : Int32), rv a2, iv (0 : Int32), iv (3 : Int32), iv (0 : Int32), .unset]) rfl ?_
    refine XS.iload X0.here hx rfl (hb hby d6_3) rfl ?_
    refine XS.iload X0.here hx rfl (hb hby d6_5) rfl ?_
    show SS p e below s₁ m 7 #[rv a1, iv (0 : Int32), rv a2, iv (0 : Int32), iv (3 : Int32), iv (0 : Int32), .unset] [(.int (3 : Int32)), (.int (0 : Int32))] _
    refine XS.icmpNo X0.here hx rfl (hb hby d6_7) rfl (tlt (by decide : (0 : Int32) < (3 : Int32))).2.1 ?_
    show SS p e below s₁ m 10 #[rv a1, iv (0 : Int32), rv a2, iv (0 : Int32), iv (3 : Int32), iv (0 : Int32), .unset] [] _
    refine XS.aloadN X0.here hx rfl (hb hby d6_10) rfl rfl ?_
    refine XS.iloadN X0.here hx rfl (hb hby d6_11) rfl ?_
    show SS p e below s₁ m 12 #[rv a1, iv (0 : Int32), rv a2, iv (0 : Int32), iv (3 : Int32), iv (0 : Int32), .unset] [(.int (0 : Int32)), (.ref a1)] _
    refine X0.caload hx (j := (0 : Int32)) (v := (.int p3)) (by rw [e0]; exact Ar7.1) (State.isArrayOf_alike hZ.alike Ar7.2.1) Ar7.2.2 hin7 hat7 (g := (mkF m 12 #[rv a1, iv (0 : Int32), rv a2, iv (0 : Int32), iv (3 : Int32), iv (0 : Int32), .unset] [(.int (0 : Int32)), (.ref a1)])) rfl rfl (hb hby d6_12) _ ?_
    show SS p e below s₁ m 13 #[rv a1, iv (0 : Int32), rv a2, iv (0 : Int32), iv (3 : Int32), iv (0 : Int32), .unset] [(.int p3)] _
    refine XS.istore X0.here hx rfl (hb hby d6_13) rfl (l' := #[rv a1, iv (0 : Int32), rv a2, iv (0 : Int32), iv (3 : Int32), iv (0 : Int32), iv p3]) rfl ?_
    refine XS.iload X0.here hx rfl (hb hby d6_15) rfl ?_
    refine XS.sipush X0.here hx rfl (hb hby d6_17) ?_
    show SS p e below s₁ m 20 #[rv a1, iv (0 : Int32), rv a2, iv (0 : Int32), iv (3 : Int32), iv (0 : Int32), iv p3] [(.int (255 : Int32)), (.int p3)] _
    refine XS.icmpYes X0.here hx rfl (pc0 := 20) (pc' := 26) rfl (hb hby d6_20) rfl (flt pr2).2.2.2 (by decide) (by decide) ?_
    show SS p e below s₁ m 26 #[rv a1, iv (0 : Int32), rv a2, iv (0 : Int32), iv (3 : Int32), iv (0 : Int32), iv p3] [] _
    refine XS.aloadN X0.here hx rfl (hb hby d6_26) rfl rfl ?_
    refine XS.iloadN X0.here hx rfl (hb hby d6_27) rfl ?_
    refine XS.iload X0.here hx rfl (hb hby d6_28) rfl ?_
    show SS p e below s₁ m 30 #[rv a1, iv (0 : Int32), rv a2, iv (0 : Int32), iv (3 : Int32), iv (0 : Int32), iv p3] [(.int p3), (.int (0 : Int32)), (.ref a2)] _
    refine XS.i2b X0.here hx rfl (hb hby d6_30) rfl ?_
    show SS p e below s₁ m 31 #[rv a1, iv (0 : Int32), rv a2, iv (0 : Int32), iv (3 : Int32), iv (0 : Int32), iv p3] [(.int (p3.toInt8.toInt32)), (.int (0 : Int32)), (.ref a2)] _
    refine st10 _ ?_
    show SS p e below T10 m 32 #[rv a1, iv (0 : Int32), rv a2, iv (0 : Int32), iv (3 : Int32), iv (0 : Int32), iv p3] [] _
    refine XS.iinc X10.here hx rfl (hb hby d6_32) rfl (l' := #[rv a1, .val (.int ((0 : Int32) + (1 : Int32))), rv a2, iv (0 : Int32), iv (3 : Int32), iv (0 : Int32), iv p3]) rfl ?_
    show SS p e below T10 m 35 #[rv a1, iv (1 : Int32), rv a2, iv (0 : Int32), iv (3 : Int32), iv (0 : Int32), iv p3] [] _
    refine XS.iinc X10.here hx rfl (hb hby d6_35) rfl (l' := #[rv a1, iv (1 : Int32), rv a2, .val (.int ((0 : Int32) + (1 : Int32))), iv (3 : Int32), iv (0 : Int32), iv p3]) rfl ?_
    show SS p e below T10 m 38 #[rv a1, iv (1 : Int32), rv a2, iv (1 : Int32), iv (3 : Int32), iv (0 : Int32), iv p3] [] _
    refine XS.iinc X10.here hx rfl (hb hby d6_38) rfl (l' := #[rv a1, iv (1 : Int32), rv a2, iv (1 : Int32), iv (3 : Int32), .val (.int ((0 : Int32) + (1 : Int32))), iv p3]) rfl ?_
    show SS p e below T10 m 41 #[rv a1, iv (1 : Int32), rv a2, iv (1 : Int32), iv (3 : Int32), iv (1 : Int32), iv p3] [] _
    refine XS.goto X10.here hx rfl (pc0 := 41) (pc' := 3) rfl (hb hby d6_41) (by decide) (by decide) ?_
    refine XS.iload X10.here hx rfl (hb hby d6_3) rfl ?_
    refine XS.iload X10.here hx rfl (hb hby d6_5) rfl ?_
    show SS p e below T10 m 7 #[rv a1, iv (1 : Int32), rv a2, iv (1 : Int32), iv (3 : Int32), iv (1 : Int32), iv p3] [(.int (3 : Int32)), (.int (1 : Int32))] _
    refine XS.icmpNo X10.here hx rfl (hb hby d6_7) rfl (tlt (by decide : (1 : Int32) < (3 : Int32))).2.1 ?_
    show SS p e below T10 m 10 #[rv a1, iv (1 : Int32), rv a2, iv (1 : Int32), iv (3 : Int32), iv (1 : Int32), iv p3] [] _
    refine XS.aloadN X10.here hx rfl (hb hby d6_10) rfl rfl ?_
    refine XS.iloadN X10.here hx rfl (hb hby d6_11) rfl ?_
    show SS p e below T10 m 12 #[rv a1, iv (1 : Int32), rv a2, iv (1 : Int32), iv (3 : Int32), iv (1 : Int32), iv p3] [(.int (1 : Int32)), (.ref a1)] _
    refine X10.caload hx (j := (1 : Int32)) (v := (.int p4)) (by rw [e10]; exact Ar12.1) (State.isArrayOf_alike hZ.alike Ar12.2.1) Ar12.2.2 hin12 hat12 (g := (mkF m 12 #[rv a1, iv (1 : Int32), rv a2, iv (1 : Int32), iv (3 : Int32), iv (1 : Int32), iv p3] [(.int (1 : Int32)), (.ref a1)])) rfl rfl (hb hby d6_12) _ ?_
    show SS p e below T10 m 13 #[rv a1, iv (1 : Int32), rv a2, iv (1 : Int32), iv (3 : Int32), iv (1 : Int32), iv p3] [(.int p4)] _
    refine XS.istore X10.here hx rfl (hb hby d6_13) rfl (l' := #[rv a1, iv (1 : Int32), rv a2, iv (1 : Int32), iv (3 : Int32), iv (1 : Int32), iv p4]) rfl ?_
    refine XS.iload X10.here hx rfl (hb hby d6_15) rfl ?_
    refine XS.sipush X10.here hx rfl (hb hby d6_17) ?_
    show SS p e below T10 m 20 #[rv a1, iv (1 : Int32), rv a2, iv (1 : Int32), iv (3 : Int32), iv (1 : Int32), iv p4] [(.int (255 : Int32)), (.int p4)] _
    refine XS.icmpYes X10.here hx rfl (pc0 := 20) (pc' := 26) rfl (hb hby d6_20) rfl (flt pr6).2.2.2 (by decide) (by decide) ?_
    show SS p e below T10 m 26 #[rv a1, iv (1 : Int32), rv a2, iv (1 : Int32), iv (3 : Int32), iv (1 : Int32), iv p4] [] _
    refine XS.aloadN X10.here hx rfl (hb hby d6_26) rfl rfl ?_
    refine XS.iloadN X10.here hx rfl (hb hby d6_27) rfl ?_
    refine XS.iload X10.here hx rfl (hb hby d6_28) rfl ?_
    show SS p e below T10 m 30 #[rv a1, iv (1 : Int32), rv a2, iv (1 : Int32), iv (3 : Int32), iv (1 : Int32), iv p4] [(.int p4), (.int (1 : Int32)), (.ref a2)] _
    refine XS.i2b X10.here hx rfl (hb hby d6_30) rfl ?_
    show SS p e below T10 m 31 #[rv a1, iv (1 : Int32), rv a2, iv (1 : Int32), iv (3 : Int32), iv (1 : Int32), iv p4] [(.int (p4.toInt8.toInt32)), (.int (1 : Int32)), (.ref a2)] _
    refine st14 _ ?_
    show SS p e below T14 m 32 #[rv a1, iv (1 : Int32), rv a2, iv (1 : Int32), iv (3 : Int32), iv (1 : Int32), iv p4] [] _
    refine XS.iinc X14.here hx rfl (hb hby d6_32) rfl (l' := #[rv a1, .val (.int ((1 : Int32) + (1 : Int32))), rv a2, iv (1 : Int32), iv (3 : Int32), iv (1 : Int32), iv p4]) rfl ?_
    show SS p e below T14 m 35 #[rv a1, iv (2 : Int32), rv a2, iv (1 : Int32), iv (3 : Int32), iv (1 : Int32), iv p4] [] _
    refine XS.iinc X14.here hx rfl (hb hby d6_35) rfl (l' := #[rv a1, iv (2 : Int32), rv a2, .val (.int ((1 : Int32) + (1 : Int32))), iv (3 : Int32), iv (1 : Int32), iv p4]) rfl ?_
    show SS p e below T14 m 38 #[rv a1, iv (2 : Int32), rv a2, iv (2 : Int32), iv (3 : Int32), iv (1 : Int32), iv p4] [] _
    refine XS.iinc X14.here hx rfl (hb hby d6_38) rfl (l' := #[rv a1, iv (2 : Int32), rv a2, iv (2 : Int32), iv (3 : Int32), .val (.int ((1 : Int32) + (1 : Int32))), iv p4]) rfl ?_
    show SS p e below T14 m 41 #[rv a1, iv (2 : Int32), rv a2, iv (2 : Int32), iv (3 : Int32), iv (2 : Int32), iv p4] [] _
    refine XS.goto X14.here hx rfl (pc0 := 41) (pc' := 3) rfl (hb hby d6_41) (by decide) (by decide) ?_
    refine XS.iload X14.here hx rfl (hb hby d6_3) rfl ?_
    refine XS.iload X14.here hx rfl (hb hby d6_5) rfl ?_
    show SS p e below T14 m 7 #[rv a1, iv (2 : Int32), rv a2, iv (2 : Int32), iv (3 : Int32), iv (2 : Int32), iv p4] [(.int (3 : Int32)), (.int (2 : Int32))] _
    refine XS.icmpNo X14.here hx rfl (hb hby d6_7) rfl (tlt (by decide : (2 : Int32) < (3 : Int32))).2.1 ?_
    show SS p e below T14 m 10 #[rv a1, iv (2 : Int32), rv a2, iv (2 : Int32), iv (3 : Int32), iv (2 : Int32), iv p4] [] _
    refine XS.aloadN X14.here hx rfl (hb hby d6_10) rfl rfl ?_
    refine XS.iloadN X14.here hx rfl (hb hby d6_11) rfl ?_
    show SS p e below T14 m 12 #[rv a1, iv (2 : Int32), rv a2, iv (2 : Int32), iv (3 : Int32), iv (2 : Int32), iv p4] [(.int (2 : Int32)), (.ref a1)] _
    refine X14.caload hx (j := (2 : Int32)) (v := (.int p5)) (by rw [e14]; exact Ar16.1) (State.isArrayOf_alike hZ.alike Ar16.2.1) Ar16.2.2 hin16 hat16 (g := (mkF m 12 #[rv a1, iv (2 : Int32), rv a2, iv (2 : Int32), iv (3 : Int32), iv (2 : Int32), iv p4] [(.int (2 : Int32)), (.ref a1)])) rfl rfl (hb hby d6_12) _ ?_
    show SS p e below T14 m 13 #[rv a1, iv (2 : Int32), rv a2, iv (2 : Int32), iv (3 : Int32), iv (2 : Int32), iv p4] [(.int p5)] _
    refine XS.istore X14.here hx rfl (hb hby d6_13) rfl (l' := #[rv a1, iv (2 : Int32), rv a2, iv (2 : Int32), iv (3 : Int32), iv (2 : Int32), iv p5]) rfl ?_
    refine XS.iload X14.here hx rfl (hb hby d6_15) rfl ?_
    refine XS.sipush X14.here hx rfl (hb hby d6_17) ?_
    show SS p e below T14 m 20 #[rv a1, iv (2 : Int32), rv a2, iv (2 : Int32), iv (3 : Int32), iv (2 : Int32), iv p5] [(.int (255 : Int32)), (.int p5)] _
    refine XS.icmpYes X14.here hx rfl (pc0 := 20) (pc' := 26) rfl (hb hby d6_20) rfl (flt pr7).2.2.2 (by decide) (by decide) ?_
    show SS p e below T14 m 26 #[rv a1, iv (2 : Int32), rv a2, iv (2 : Int32), iv (3 : Int32), iv (2 : Int32), iv p5] [] _
    refine XS.aloadN X14.here hx rfl (hb hby d6_26) rfl rfl ?_
    refine XS.iloadN X14.here hx rfl (hb hby d6_27) rfl ?_
    refine XS.iload X14.here hx rfl (hb hby d6_28) rfl ?_
    show SS p e below T14 m 30 #[rv a1, iv (2 : Int32), rv a2, iv (2 : Int32), iv (3 : Int32), iv (2 : Int32), iv p5] [(.int p5), (.int (2 : Int32)), (.ref a2)] _
    refine XS.i2b X14.here hx rfl (hb hby d6_30) rfl ?_
    show SS p e below T14 m 31 #[rv a1, iv (2 : Int32), rv a2, iv (2 : Int32), iv (3 : Int32), iv (2 : Int32), iv p5] [(.int (p5.toInt8.toInt32)), (.int (2 : Int32)), (.ref a2)] _
    refine st18 _ ?_
    show SS p e below T18 m 32 #[rv a1, iv (2 : Int32), rv a2, iv (2 : Int32), iv (3 : Int32), iv (2 : Int32), iv p5] [] _
    refine XS.iinc X18.here hx rfl (hb hby d6_32) rfl (l' := #[rv a1, .val (.int ((2 : Int32) + (1 : Int32))), rv a2, iv (2 : Int32), iv (3 : Int32), iv (2 : Int32), iv p5]) rfl ?_
    show SS p e below T18 m 35 #[rv a1, iv (3 : Int32), rv a2, iv (2 : Int32), iv (3 : Int32), iv (2 : Int32), iv p5] [] _
    refine XS.iinc X18.here hx rfl (hb hby d6_35) rfl (l' := #[rv a1, iv (3 : Int32), rv a2, .val (.int ((2 : Int32) + (1 : Int32))), iv (3 : Int32), iv (2 : Int32), iv p5]) rfl ?_
    show SS p e below T18 m 38 #[rv a1, iv (3 : Int32), rv a2, iv (3 : Int32), iv (3 : Int32), iv (2 : Int32), iv p5] [] _
    refine XS.iinc X18.here hx rfl (hb hby d6_38) rfl (l' := #[rv a1, iv (3 : Int32), rv a2, iv (3 : Int32), iv (3 : Int32), .val (.int ((2 : Int32) + (1 : Int32))), iv p5]) rfl ?_
    show SS p e below T18 m 41 #[rv a1, iv (3 : Int32), rv a2, iv (3 : Int32), iv (3 : Int32), iv (3 : Int32), iv p5] [] _
    refine XS.goto X18.here hx rfl (pc0 := 41) (pc' := 3) rfl (hb hby d6_41) (by decide) (by decide) ?_
    refine XS.iload X18.here hx rfl (hb hby d6_3) rfl ?_
    refine XS.iload X18.here hx rfl (hb hby d6_5) rfl ?_
    show SS p e below T18 m 7 #[rv a1, iv (3 : Int32), rv a2, iv (3 : Int32), iv (3 : Int32), iv (3 : Int32), iv p5] [(.int (3 : Int32)), (.int (3 : Int32))] _
    refine XS.icmpYes X18.here hx rfl (pc0 := 7) (pc' := 44) rfl (hb hby d6_7) rfl (flt (by decide : ¬ ((3 : Int32) < (3 : Int32)))).2.1 (by decide) (by decide) ?_
    show SS p e below T18 m 44 #[rv a1, iv (3 : Int32), rv a2, iv (3 : Int32), iv (3 : Int32), iv (3 : Int32), iv p5] [] _
    refine XS.iload X18.here hx rfl (hb hby d6_44) rfl ?_
    show SS p e below T18 m 46 #[rv a1, iv (3 : Int32), rv a2, iv (3 : Int32), iv (3 : Int32), iv (3 : Int32), iv p5] [(.int (3 : Int32))] _
    exact retI X18 hx Bd.returns (hb hby d6_46) hr
  · show Q_rm6_6 Z a1 a2 p3 p4 p5 k6 k8 h0 n0 _ T18.heap _
    rw [e18]
    exact ⟨rfl, N18, KK18, V18⟩
def Q_rm5_6 (Z : State) (a1 : Addr) (p3 : Int32) (p4 : Int32) (p5 : Int32) (k6 : ClassId) (h0 : Heap) (n0 : Nat) (v : Option Value) (h : Heap) (L : List Loc) : Prop := ∃ b2 : Addr, ∃ k2 : ClassId, v = some (.ref b2) ∧ Fr n0 L ∧ Keep h0 h [] ∧ h0.size ≤ b2 ∧ Arv Z h b2 k2 .byte (3 : Int32) [(.int ((p3.toInt8.toInt32).toInt8.toInt32)), (.int ((p4.toInt8.toInt32).toInt8.toInt32)), (.int ((p5.toInt8.toInt32).toInt8.toInt32))] (.int (0 : Int32))
set_option maxRecDepth 65536 in
set_option maxHeartbeats 40000000 in
theorem rm5_6 (l : Launch) (Z : State) (a0 : Array Value) (hw : ∀ d ∈ tables_1, d.before a0 Z = true) (ws : List Jvm.Cond) (a1 : Addr) (p3 : Int32) (p4 : Int32) (p5 : Int32) (k6 : ClassId) (h0 : Heap) (n0 : Nat) (OL0 : Old Z n0 h0) (pr1 : Arv Z h0 a1 k6 .char (3 : Int32) [(.int p3), (.int p4), (.int p5)] (.int (0 : Int32))) (pr2 : ¬ ((255 : Int32) < p3)) (pr3 : ¬ ((255 : Int32) < p4)) (pr4 : ¬ ((255 : Int32) < p5)) :
    MetFree l mn5 (head1 (Jvm.Cond.code mn5 jdk_52_method_16_code 6 (some (.array .byte)) :: ws) ({ frames := 1, cells := 1, slots := 3, locals := 18 } : Room)) (fun a U => a = #[(.ref a1), (.int (0 : Int32)), (.int (3 : Int32))] ∧ Z.Warmed39 U.vm ∧ U.heap = h0) (fun _ _ _ _ _ => True) (fun _ U o U' => ∃ v L, o = .returned v ∧ Q_rm5_6 Z a1 p3 p4 p5 k6 h0 n0 v U'.heap L ∧ FrameEnd U o U' L ({ frames := 1, cells := 1, slots := 3, locals := 18 } : Room).cells ({ frames := 1, cells := 1, slots := 3, locals := 18 } : Room).slots) := by
  refine MetFree.of_bodySF (plainFor_of_name pn_6) hisR ?_
  intro p e s m args below meth c s₁ Bd hml0 hP hK
  obtain ⟨rfl, hZ, hh⟩ := hP
  have hx := Bd.exec
  have hby := Bd.bytes
  have hml : c.maxLocals = 6 := hml0
  have hown : s.vm.findClass "java/lang/StringUTF16" = some m.cls := findClass_of_methodNamed Bd.named
  have hnm := (name_of_methodNamed Bd.named Bd.method).1
  have X0 : Stand p l e ({ frames := 1, cells := 1, slots := 3, locals := 18 } : Room) s m #[(.ref a1), (.int (0 : Int32)), (.int (3 : Int32))] below meth c s₁ [] 0 0 := Stand.of_body Bd
  have e0 : s₁.heap = h0 := by rw [← hh, Bd.state]; rfl
  have N0 := Fr.nil n0
  have pre0 : ∀ t, SS p e below s₁ m 0 #[rv a1, iv (0 : Int32), iv (3 : Int32), .unset, .unset, .unset] [] t → Steps p.tables e below (s₁.setTop (entryFrame m #[(.ref a1), (.int (0 : Int32)), (.int (3 : Int32))] 6)) t := fun t k => castTop (ef_5_33 m a1) k
  obtain ⟨T2, h2, k2, X2, e2, E2, A2, st2⟩ := newP (aty := .byte) X0 hx hZ (wd24 hw) e0 (g := (mkF m 1 #[rv a1, iv (0 : Int32), iv (3 : Int32), .unset, .unset, .unset] [(.int (3 : Int32))])) rfl (hb hby d5_1) rfl (by decide) (cap := 3) (by decide) (by decide) (by decide) (by decide)
  obtain ⟨b2, g2⟩ : ∃ z, z = h0.size := ⟨_, rfl⟩
  rw [← g2] at A2 st2
  have V2 : Arv Z h2 b2 k2 .byte (3 : Int32) [(.int (0 : Int32)), (.int (0 : Int32)), (.int (0 : Int32))] (.int (0 : Int32)) := (Arv.new A2 (by decide)).pad (pad_rep [] (.int (0 : Int32)) 3)
  have g_b2 : n0 ≤ b2 := (Nat.le_trans (Nat.le_trans (Nat.le_of_eq OL0.1.symm) OL0.2.1) (Nat.le_of_eq g2.symm))
  have sz_b2 : h0.size ≤ b2 := (Nat.le_trans (Keep.refl h0 []).1 (Nat.le_of_eq g2.symm))
  have KK2 : Keep h0 h2 [] := (Keep.refl h0 []).ext E2
  have OL2 := OL0.ext E2
  have fc8 := (pr1.ext E2)
  obtain ⟨_, _, ⟨T7, L7, k7, n7⟩, -, X7, ⟨Lc7, hQ7, l7, y7, z7⟩, st7⟩ := Jvm.LawKit.callS X2 hx (y := mn6) hown (mvT hZ (wd25 hw)) (mvT hZ (wd26 hw)) (mvT hZ (wd22 hw)) (mvT hZ (wd27 hw)) (by decide) (backOf (W := 0) (rm6_6 l Z a0 hw [] a1 b2 p3 p4 p5 k6 k2 h2 n0 OL2 fc8 pr2 V2 g_b2 (Nat.ne_of_lt (Nat.lt_of_lt_of_le pr1.lt sz_b2)) pr3 pr4) hZ (wd27 hw) (wd22 hw) (by decide) (by decide)) (g := (mkF m 9 #[rv a1, iv (0 : Int32), iv (3 : Int32), rv b2, .unset, .unset] [(.int (3 : Int32)), (.int (0 : Int32)), (.ref b2), (.int (0 : Int32)), (.ref a1)])) rfl (by rw [hml]; rfl) (argsL := [(.ref a1), (.int (0 : Int32)), (.ref b2), (.int (0 : Int32)), (.int (3 : Int32))]) (rest := []) (lenOf pd_14 rfl) rfl (by show 2 * 0 + _ ≤ _; exact Nat.le_of_eq rfl) (hb hby d5_9) (fun _ _ => ⟨rfl, e2, (by decide : 1 + 0 ≤ _), (by decide : 3 + 0 ≤ _)⟩)
  dsimp only [Pt.U, Pt.locs, Pt.cells, Pt.slots] at X7 l7 y7 z7 st7 hQ7
  subst l7 y7 z7
  obtain ⟨rfl, Nq7, K7, u7_0⟩ := hQ7
  have KK7 : Keep h0 T7.heap [] := KK2.trans K7 (allS (Or.inr sz_b2) all0)
  have OL7 := OL2.keep K7 (allS g_b2 all0)
  have N7 := Fr.app N0 Nq7
  obtain ⟨fs, hr, hrun, hended, hW, hsame⟩ := X7.leave (v := some (.ref b2)) (fun h => by rw [Bd.returns] at h; cases h)
  refine ⟨_, _, pre0 _ ?_, hrun, hended, _, _, rfl, ?_, ⟨_, rfl⟩, hW, hsame.mono (by decide) (by decide)⟩
  · show SS p e below s₁ m 0 #[rv a1, iv (0 : Int32), iv (3 : Int32), .unset, .unset, .unset] [] _
    refine XS.iloadN X0.here hx rfl (hb hby d5_0) rfl ?_
    show SS p e below s₁ m 1 #[rv a1, iv (0 : Int32), iv (3 : Int32), .unset, .unset, .unset] [(.int (3 : Int32))] _
    refine st2 _ ?_
    show SS p e below T2 m 3 #[rv a1, iv (0 : Int32), iv (3 : Int32), .unset, .unset, .unset] [(.ref b2)] _
    refine XS.astoreN X2.here hx rfl (hb hby d5_3) rfl rfl (l' := #[rv a1, iv (0 : Int32), iv (3 : Int32), rv b2, .unset, .unset]) rfl ?_
    refine XS.aloadN X2.here hx rfl (hb hby d5_4) rfl rfl ?_
    refine XS.iloadN X2.here hx rfl (hb hby d5_5) rfl ?_
    refine XS.aloadN X2.here hx rfl (hb hby d5_6) rfl rfl ?_
    show SS p e below T2 m 7 #[rv a1, iv (0 : Int32), iv (3 : Int32), rv b2, .unset, .unset] [(.ref b2), (.int (0 : Int32)), (.ref a1)] _
    refine XS.iconst X2.here hx rfl (hb hby d5_7) ?_
    refine XS.iloadN X2.here hx rfl (hb hby d5_8) rfl ?_
    show SS p e below T2 m 9 #[rv a1, iv (0 : Int32), iv (3 : Int32), rv b2, .unset, .unset] [(.int (3 : Int32)), (.int (0 : Int32)), (.ref b2), (.int (0 : Int32)), (.ref a1)] _
    refine st7 _ ?_
    show SS p e below T7 m 12 #[rv a1, iv (0 : Int32), iv (3 : Int32), rv b2, .unset, .unset] [(.int (3 : Int32))] _
    refine XS.istore X7.here hx rfl (hb hby d5_12) rfl (l' := #[rv a1, iv (0 : Int32), iv (3 : Int32), rv b2, iv (3 : Int32), .unset]) rfl ?_
    refine XS.iload X7.here hx rfl (hb hby d5_14) rfl ?_
    refine XS.iloadN X7.here hx rfl (hb hby d5_16) rfl ?_
    show SS p e below T7 m 17 #[rv a1, iv (0 : Int32), iv (3 : Int32), rv b2, iv (3 : Int32), .unset] [(.int (3 : Int32)), (.int (3 : Int32))] _
    refine XS.icmpYes X7.here hx rfl (pc0 := 17) (pc' := 57) rfl (hb hby d5_17) rfl (teq (rfl : (3 : Int32) = (3 : Int32))).1 (by decide) (by decide) ?_
    show SS p e below T7 m 57 #[rv a1, iv (0 : Int32), iv (3 : Int32), rv b2, iv (3 : Int32), .unset] [] _
    refine XS.aloadN X7.here hx rfl (hb hby d5_57) rfl rfl ?_
    show SS p e below T7 m 58 #[rv a1, iv (0 : Int32), iv (3 : Int32), rv b2, iv (3 : Int32), .unset] [(.ref b2)] _
    jvm_step X7.here [X7.here.top, hx, (hb hby d5_58), X7.method', Bd.returns, Value.isRef, FieldType.isReference]
    first | (intro acts; rw [hr _ acts rfl rfl rfl]) | rw [hr _ _ rfl rfl rfl]
    exact Steps.refl _
  · show Q_rm5_6 Z a1 p3 p4 p5 k6 h0 n0 _ T7.heap _
    exact ⟨b2, k2, rfl, N7, KK7, sz_b2, u7_0⟩
def Q_rm7_3 (Z : State) (a1 : Addr) (p2 : Int32) (p3 : Int32) (p4 : Int32) (k5 : ClassId) (h0 : Heap) (n0 : Nat) (v : Option Value) (h : Heap) (L : List Loc) : Prop := v = some (.int (0 : Int32)) ∧ Fr n0 L ∧ h = h0
set_option maxRecDepth 65536 in
set_option maxHeartbeats 40000000 in
theorem rm7_3 (l : Launch) (Z : State) (a0 : Array Value) (hw : ∀ d ∈ tables_1, d.before a0 Z = true) (ws : List Jvm.Cond) (a1 : Addr) (p2 : Int32) (p3 : Int32) (p4 : Int32) (k5 : ClassId) (h0 : Heap) (n0 : Nat) (OL0 : Old Z n0 h0) (pr1 : Arv Z h0 a1 k5 .byte (3 : Int32) [(.int p2), (.int p3), (.int p4)] (.int (0 : Int32))) :
    MetFree l mn7 (head1 (Jvm.Cond.code mn7 jdk_52_method_15_code 2 (some .byte) :: ws) ({ frames := 0, cells := 0, slots := 0, locals := 0 } : Room)) (fun a U => a = #[(.ref a1), (.int (3 : Int32))] ∧ Z.Warmed39 U.vm ∧ U.heap = h0) (fun _ _ _ _ _ => True) (fun _ U o U' => ∃ v L, o = .returned v ∧ Q_rm7_3 Z a1 p2 p3 p4 k5 h0 n0 v U'.heap L ∧ FrameEnd U o U' L ({ frames := 0, cells := 0, slots := 0, locals := 0 } : Room).cells ({ frames := 0, cells := 0, slots := 0, locals := 0 } : Room).slots) := by
  refine MetFree.of_bodySF (plainFor_of_name pn_6) hisR ?_
  intro p e s m args below meth c s₁ Bd hml0 hP hK
  obtain ⟨rfl, hZ, hh⟩ := hP
  have hx := Bd.exec
  have hby := Bd.bytes
  have hml : c.maxLocals = 2 := hml0
  have hown : s.vm.findClass "java/lang/StringUTF16" = some m.cls := findClass_of_methodNamed Bd.named
  have hnm := (name_of_methodNamed Bd.named Bd.method).1
  have X0 : Stand p l e ({ frames := 0, cells := 0, slots := 0, locals := 0 } : Room) s m #[(.ref a1), (.int (3 : Int32))] below meth c s₁ [] 0 0 := Stand.of_body Bd
  have e0 : s₁.heap = h0 := by rw [← hh, Bd.state]; rfl
  have N0 := Fr.nil n0
  have pre0 : ∀ t, SS p e below s₁ m 0 #[rv a1, iv (3 : Int32)] [] t → Steps p.tables e below (s₁.setTop (entryFrame m #[(.ref a1), (.int (3 : Int32))] 2)) t := fun t k => castTop (ef_7_34 m a1) k
  obtain ⟨cl6, Ar6, -, Sz6, Nn6, -, -⟩ := id pr1
  obtain ⟨fs, hr, hrun, hended, hW, hsame⟩ := X0.leave (v := some (.int (0 : Int32))) (fun h => by rw [Bd.returns] at h; cases h)
  refine ⟨_, _, pre0 _ ?_, hrun, hended, _, _, rfl, ?_, ⟨_, rfl⟩, hW, hsame.mono (by decide) (by decide)⟩
  · show SS p e below s₁ m 0 #[rv a1, iv (3 : Int32)] [] _
    refine XS.iloadN X0.here hx rfl (hb hby d7_0) rfl ?_
    refine XS.aloadN X0.here hx rfl (hb hby d7_1) rfl rfl ?_
    show SS p e below s₁ m 2 #[rv a1, iv (3 : Int32)] [(.ref a1), (.int (3 : Int32))] _
    refine X0.arraylength hx (by rw [e0]; exact Ar6.1) (State.isArrayOf_alike hZ.alike Ar6.2.1) (g := (mkF m 2 #[rv a1, iv (3 : Int32)] [(.ref a1), (.int (3 : Int32))])) rfl rfl (hb hby d7_2) _ ?_
    rw [len_of Sz6 Nn6]
    show SS p e below s₁ m 3 #[rv a1, iv (3 : Int32)] [(.int (3 : Int32)), (.int (3 : Int32))] _
    refine XS.isub X0.here hx rfl (hb hby d7_3) rfl ?_
    show SS p e below s₁ m 4 #[rv a1, iv (3 : Int32)] [(.int (0 : Int32))] _
    refine XS.bipush X0.here hx rfl (hb hby d7_4) ?_
    show SS p e below s₁ m 6 #[rv a1, iv (3 : Int32)] [(.int (31 : Int32)), (.int (0 : Int32))] _
    refine XS.iushr X0.here hx rfl (hb hby d7_6) rfl ?_
    show SS p e below s₁ m 7 #[rv a1, iv (3 : Int32)] [(.int (0 : Int32))] _
    refine XS.i2b X0.here hx rfl (hb hby d7_7) rfl ?_
    show SS p e below s₁ m 8 #[rv a1, iv (3 : Int32)] [(.int (0 : Int32))] _
    exact retN X0 hx (t := .byte) Bd.returns (by simp) (hb hby d7_8) hr
  · show Q_rm7_3 Z a1 p2 p3 p4 k5 h0 n0 _ s₁.heap _
    rw [e0]
    exact ⟨rfl, N0, rfl⟩
def Q_rm3_7 (Z : State) (a1 : Addr) (a2 : Addr) (p4 : Int32) (p6 : Int32) (p7 : Int32) (p8 : Int32) (k9 : ClassId) (h0 : Heap) (n0 : Nat) (v : Option Value) (h : Heap) (L : List Loc) : Prop := ∃ b10_0 : Addr, ∃ kx10_0 : ClassId, v = none ∧ Fr n0 L ∧ Keep h0 h [a1] ∧ h0.size ≤ b10_0 ∧ Fld Z h a1 "java/lang/String" "coder" "B" (.int (0 : Int32)) ∧ Fld Z h a1 "java/lang/String" "value" "[B" (.ref b10_0) ∧ Arv Z h b10_0 kx10_0 .byte (3 : Int32) [(.int ((p6.toInt8.toInt32).toInt8.toInt32)), (.int ((p7.toInt8.toInt32).toInt8.toInt32)), (.int ((p8.toInt8.toInt32).toInt8.toInt32))] (.int (0 : Int32))
set_option maxRecDepth 65536 in
set_option maxHeartbeats 40000000 in
theorem rm3_7 (l : Launch) (Z : State) (a0 : Array Value) (hw : ∀ d ∈ tables_1, d.before a0 Z = true) (ws : List Jvm.Cond) (a1 : Addr) (a2 : Addr) (p4 : Int32) (p6 : Int32) (p7 : Int32) (p8 : Int32) (k9 : ClassId) (h0 : Heap) (n0 : Nat) (OL0 : Old Z n0 h0) (pr1 : Sta Z Z.heap "java/lang/String" "COMPACT_STRINGS" "Z" (.int p4)) (pr2 : ¬ (p4 = (0 : Int32))) (pr3 : Arv Z h0 a2 k9 .char (3 : Int32) [(.int p6), (.int p7), (.int p8)] (.int (0 : Int32))) (pr4 : ¬ ((255 : Int32) < p6)) (pr5 : ¬ ((255 : Int32) < p7)) (pr6 : ¬ ((255 : Int32) < p8)) (pr7 : Exa Z h0 a1 "java/lang/String") (pr8 : Fld Z h0 a1 "java/lang/String" "coder" "B" (.int (0 : Int32))) (pr9 : n0 ≤ a1) (pr10 : Fld Z h0 a1 "java/lang/String" "value" "[B" .null) :
    MetFree l mn3 (head1 (Jvm.Cond.code mn3 jdk_42_method_149_code 6 none :: ws) ({ frames := 2, cells := 1, slots := 3, locals := 35 } : Room)) (fun a U => a = #[(.ref a1), (.ref a2), (.int (0 : Int32)), (.int (3 : Int32)), .null] ∧ Z.Warmed39 U.vm ∧ U.heap = h0) (fun _ _ _ _ _ => True) (fun _ U o U' => ∃ v L, o = .returned v ∧ Q_rm3_7 Z a1 a2 p4 p6 p7 p8 k9 h0 n0 v U'.heap L ∧ FrameEnd U o U' L ({ frames := 2, cells := 1, slots := 3, locals := 35 } : Room).cells ({ frames := 2, cells := 1, slots := 3, locals := 35 } : Room).slots) := by
  refine MetFree.of_bodySF (plainFor_of_name pn_0) hisR ?_
  intro p e s m args below meth c s₁ Bd hml0 hP hK
  obtain ⟨rfl, hZ, hh⟩ := hP
  have hx := Bd.exec
  have hby := Bd.bytes
  have hml : c.maxLocals = 6 := hml0
  have hown : s.vm.findClass "java/lang/String" = some m.cls := findClass_of_methodNamed Bd.named
  have hnm := (name_of_methodNamed Bd.named Bd.method).1
  have X0 : Stand p l e ({ frames := 2, cells := 1, slots := 3, locals := 35 } : Room) s m #[(.ref a1), (.ref a2), (.int (0 : Int32)), (.int (3 : Int32)), .null] below meth c s₁ [] 0 0 := Stand.of_body Bd
  have e0 : s₁.heap = h0 := by rw [← hh, Bd.state]; rfl
  have N0 := Fr.nil n0
  have pre0 : ∀ t, SS p e below s₁ m 0 #[rv a1, rv a2, iv (0 : Int32), iv (3 : Int32), .val .null, .unset] [] t → Steps p.tables e below (s₁.setTop (entryFrame m #[(.ref a1), (.ref a2), (.int (0 : Int32)), (.int (3 : Int32)), .null] 6)) t := fun t k => castTop (ef_3_35 m a1 a2) k
  obtain ⟨T3, X3, e3, st3⟩ := initO X0 hx hZ hown (wd16 hw) (wd17 hw) (wd18 hw) e0 (g := (mkF m 1 #[rv a1, rv a2, iv (0 : Int32), iv (3 : Int32), .val .null, .unset] [(.ref a1)])) rfl (by rw [hml]; rfl) rfl (hb hby d3_1) (by decide) (W := 0) (by show 2 * 0 + _ ≤ _; exact Nat.le_of_eq rfl) (by decide)
  obtain ⟨T5, X5, e5, st5⟩ := getS2 X3 hx hZ hown (host := "") (Or.inl (wd19 hw)) Via.refl e3 (pr1.ext OL0.2) (g := (mkF m 27 #[rv a1, rv a2, iv (0 : Int32), iv (3 : Int32), .val .null, .unset] [])) rfl (hb hby d3_27)
  obtain ⟨_, _, ⟨T10, L10, k10, n10⟩, -, X10, ⟨Lc10, hQ10, l10, y10, z10⟩, st10⟩ := Jvm.LawKit.callS X5 hx (y := mn5) hown (mvT hZ (wd20 hw)) (mvT hZ (wd21 hw)) (mvT hZ (wd22 hw)) (mvT hZ (wd23 hw)) (by decide) (backOf (W := 0) (rm5_6 l Z a0 hw [] a2 p6 p7 p8 k9 h0 n0 OL0 pr3 pr4 pr5 pr6) hZ (wd23 hw) (wd22 hw) (by decide) (by decide)) (g := (mkF m 36 #[rv a1, rv a2, iv (0 : Int32), iv (3 : Int32), .val .null, .unset] [(.int (3 : Int32)), (.int (0 : Int32)), (.ref a2)])) rfl (by rw [hml]; rfl) (argsL := [(.ref a2), (.int (0 : Int32)), (.int (3 : Int32))]) (rest := []) (lenOf pd_17 rfl) rfl (by show 2 * 0 + _ ≤ _; exact Nat.le_of_eq rfl) (hb hby d3_36) (fun _ _ => ⟨rfl, e5, (by decide : 0 + 1 ≤ _), (by decide : 0 + 3 ≤ _)⟩)
  dsimp only [Pt.U, Pt.locs, Pt.cells, Pt.slots] at X10 l10 y10 z10 st10 hQ10
  subst l10 y10 z10
  obtain ⟨b10_0, kx10_0, rfl, Nq10, K10, u10_0, u10_1⟩ := hQ10
  have KK10 : Keep h0 T10.heap [a1] := (Keep.refl h0 [a1]).trans K10 all0
  have OL10 := OL0.keep K10 all0
  have g_b10_0 : n0 ≤ b10_0 := Nat.le_trans (Nat.le_trans (Nat.le_of_eq OL0.1.symm) OL0.2.1) u10_0
  have sz_b10_0 : h0.size ≤ b10_0 := Nat.le_trans (Keep.refl h0 [a1]).1 u10_0
  have N10 := Fr.app N0 Nq10
  obtain ⟨_, _, ⟨T11, L11, k11, n11⟩, -, X11, ⟨Lc11, hQ11, l11, y11, z11⟩, st11⟩ := Jvm.LawKit.callS X10 hx (y := mn7) hown (mvT hZ (wd28 hw)) (mvT hZ (wd29 hw)) (mvT hZ (wd22 hw)) (mvT hZ (wd30 hw)) (by decide) (backOf (W := 1) (rm7_3 l Z a0 hw [] b10_0 ((p6.toInt8.toInt32).toInt8.toInt32) ((p7.toInt8.toInt32).toInt8.toInt32) ((p8.toInt8.toInt32).toInt8.toInt32) kx10_0 T10.heap n0 OL10 u10_1) hZ (wd30 hw) (wd22 hw) (by decide) (by decide)) (g := (mkF m 45 #[rv a1, rv a2, iv (0 : Int32), iv (3 : Int32), .val .null, rv b10_0] [(.int (3 : Int32)), (.ref b10_0), (.ref a1)])) rfl (by rw [hml]; rfl) (argsL := [(.ref b10_0), (.int (3 : Int32))]) (rest := [(.ref a1)]) (lenOf pd_19 rfl) rfl (by show 2 * 0 + _ ≤ _; exact Nat.le_of_eq rfl) (hb hby d3_45) (fun _ _ => ⟨rfl, rfl, (by decide : 1 + 0 ≤ _), (by decide : 3 + 0 ≤ _)⟩)
  dsimp only [Pt.U, Pt.locs, Pt.cells, Pt.slots] at X11 l11 y11 z11 st11 hQ11
  subst l11 y11 z11
  obtain ⟨rfl, Nq11, ec11⟩ := hQ11
  have N11 := Fr.app N10 Nq11
  have fc12 := (pr7.keep K10)
  have fc13 := (pr8.keep K10 nin0)
  obtain ⟨T14, h14, X14, e14, W14, st14⟩ := putFN X11 hx hZ hown (wd31 hw) Via.refl ec11 fc13 fc12 (Or.inr ⟨(wd32 hw), rfl, hnm⟩) (wd6 hw) (ty := .byte) (v' := (.int (0 : Int32))) (by decide) rfl rfl (g := (mkF m 48 #[rv a1, rv a2, iv (0 : Int32), iv (3 : Int32), .val .null, rv b10_0] [(.int (0 : Int32)), (.ref a1)])) rfl rfl (hb hby d3_48)
  have Fw14 := fc13.same W14
  have KK14 : Keep h0 h14 [a1] := KK10.wr W14 (Or.inl (List.mem_of_getElem? (i := 0) rfl))
  have OL14 := OL10.wr W14 pr9
  have N14 := Fr.snoc X14 N11 pr9
  have fc15 := (fc12.wr W14)
  have fc16 := ((pr10.keep K10 nin0).other W14 (Or.inr (slot_ne (Or.inr (wd34 hw)) (Or.inr (wd32 hw)) (by decide) (t := (.array .byte)) (t' := .byte) (by decide) (by decide))))
  obtain ⟨T17, h17, X17, e17, W17, st17⟩ := putF X14 hx hZ hown (host := "") (Or.inl (wd33 hw)) Via.refl e14 fc16 fc15 (Or.inr ⟨(wd34 hw), rfl, hnm⟩) (wd6 hw) (ty := (.array .byte)) (by decide) rfl rfl (g := (mkF m 54 #[rv a1, rv a2, iv (0 : Int32), iv (3 : Int32), .val .null, rv b10_0] [(.ref b10_0), (.ref a1)])) rfl rfl (hb hby d3_54)
  have Fw17 := fc16.same W17
  have KK17 : Keep h0 h17 [a1] := KK14.wr W17 (Or.inl (List.mem_of_getElem? (i := 0) rfl))
  have OL17 := OL14.wr W17 pr9
  have N17 := Fr.snoc X17 N14 pr9
  have fc18 := (Fw14.other W17 (Or.inr (slot_ne (Or.inr (wd32 hw)) (Or.inr (wd34 hw)) (by decide) (t := .byte) (t' := (.array .byte)) (by decide) (by decide))))
  have fc19 := ((u10_1.other W14 (Ne.symm (Nat.ne_of_lt (Nat.lt_of_lt_of_le pr8.lt sz_b10_0)))).other W17 (Ne.symm (Nat.ne_of_lt (Nat.lt_of_lt_of_le pr8.lt sz_b10_0))))
  obtain ⟨fs, hr, hrun, hended, hW, hsame⟩ := X17.leave (v := none) (fun _ => rfl)
  refine ⟨_, _, pre0 _ ?_, hrun, hended, _, _, rfl, ?_, ⟨_, rfl⟩, hW, hsame.mono (by decide) (by decide)⟩
  · show SS p e below s₁ m 0 #[rv a1, rv a2, iv (0 : Int32), iv (3 : Int32), .val .null, .unset] [] _
    refine XS.aloadN X0.here hx rfl (hb hby d3_0) rfl rfl ?_
    show SS p e below s₁ m 1 #[rv a1, rv a2, iv (0 : Int32), iv (3 : Int32), .val .null, .unset] [(.ref a1)] _
    refine st3 _ ?_
    show SS p e below T3 m 4 #[rv a1, rv a2, iv (0 : Int32), iv (3 : Int32), .val .null, .unset] [] _
    refine XS.iloadN X3.here hx rfl (hb hby d3_4) rfl ?_
    show SS p e below T3 m 5 #[rv a1, rv a2, iv (0 : Int32), iv (3 : Int32), .val .null, .unset] [(.int (3 : Int32))] _
    refine XS.ifYes X3.here hx rfl (pc0 := 5) (pc' := 27) rfl (hb hby d3_5) rfl ((if0 _ _).trans (feq (by decide : ¬ ((3 : Int32) = (0 : Int32)))).2) (by decide) (by decide) ?_
    show SS p e below T3 m 27 #[rv a1, rv a2, iv (0 : Int32), iv (3 : Int32), .val .null, .unset] [] _
    refine st5 _ ?_
    show SS p e below T5 m 30 #[rv a1, rv a2, iv (0 : Int32), iv (3 : Int32), .val .null, .unset] [(.int p4)] _
    refine XS.ifNo X5.here hx rfl (hb hby d3_30) rfl ((if0 _ _).trans (feq pr2).1) ?_
    show SS p e below T5 m 33 #[rv a1, rv a2, iv (0 : Int32), iv (3 : Int32), .val .null, .unset] [] _
    refine XS.aloadN X5.here hx rfl (hb hby d3_33) rfl rfl ?_
    refine XS.iloadN X5.here hx rfl (hb hby d3_34) rfl ?_
    refine XS.iloadN X5.here hx rfl (hb hby d3_35) rfl ?_
    show SS p e below T5 m 36 #[rv a1, rv a2, iv (0 : Int32), iv (3 : Int32), .val .null, .unset] [(.int (3 : Int32)), (.int (0 : Int32)), (.ref a2)] _
    refine st10 _ ?_
    show SS p e below T10 m 39 #[rv a1, rv a2, iv (0 : Int32), iv (3 : Int32), .val .null, .unset] [(.ref b10_0)] _
    refine XS.astore X10.here hx rfl (hb hby d3_39) rfl rfl (l' := #[rv a1, rv a2, iv (0 : Int32), iv (3 : Int32), .val .null, rv b10_0]) rfl ?_
    refine XS.aloadN X10.here hx rfl (hb hby d3_41) rfl rfl ?_
    refine XS.aload X10.here hx rfl (hb hby d3_42) rfl rfl ?_
    refine XS.iloadN X10.here hx rfl (hb hby d3_44) rfl ?_
    show SS p e below T10 m 45 #[rv a1, rv a2, iv (0 : Int32), iv (3 : Int32), .val .null, rv b10_0] [(.int (3 : Int32)), (.ref b10_0), (.ref a1)] _
    refine st11 _ ?_
    show SS p e below T11 m 48 #[rv a1, rv a2, iv (0 : Int32), iv (3 : Int32), .val .null, rv b10_0] [(.int (0 : Int32)), (.ref a1)] _
    refine st14 _ ?_
    show SS p e below T14 m 51 #[rv a1, rv a2, iv (0 : Int32), iv (3 : Int32), .val .null, rv b10_0] [] _
    refine XS.aloadN X14.here hx rfl (hb hby d3_51) rfl rfl ?_
    refine XS.aload X14.here hx rfl (hb hby d3_52) rfl rfl ?_
    show SS p e below T14 m 54 #[rv a1, rv a2, iv (0 : Int32), iv (3 : Int32), .val .null, rv b10_0] [(.ref b10_0), (.ref a1)] _
    refine st17 _ ?_
    show SS p e below T17 m 57 #[rv a1, rv a2, iv (0 : Int32), iv (3 : Int32), .val .null, rv b10_0] [] _
    exact X17.returnOut hx Bd.returns (hb hby d3_57) hr
  · show Q_rm3_7 Z a1 a2 p4 p6 p7 p8 k9 h0 n0 _ T17.heap _
    rw [e17]
    exact ⟨b10_0, kx10_0, rfl, N17, KK17, sz_b10_0, fc18, Fw17, fc19⟩
def Q_rm2_7 (Z : State) (a1 : Addr) (a2 : Addr) (p3 : Int32) (p4 : Int32) (p5 : Int32) (k6 : ClassId) (p8 : Int32) (h0 : Heap) (n0 : Nat) (v : Option Value) (h : Heap) (L : List Loc) : Prop := ∃ b9_0 : Addr, ∃ kx9_0 : ClassId, v = none ∧ Fr n0 L ∧ Keep h0 h [a1] ∧ h0.size ≤ b9_0 ∧ Fld Z h a1 "java/lang/String" "coder" "B" (.int (0 : Int32)) ∧ Fld Z h a1 "java/lang/String" "value" "[B" (.ref b9_0) ∧ Arv Z h b9_0 kx9_0 .byte (3 : Int32) [(.int ((p3.toInt8.toInt32).toInt8.toInt32)), (.int ((p4.toInt8.toInt32).toInt8.toInt32)), (.int ((p5.toInt8.toInt32).toInt8.toInt32))] (.int (0 : Int32))
set_option maxRecDepth 65536 in
set_option maxHeartbeats 40000000 in
theorem rm2_7 (l : Launch) (Z : State) (a0 : Array Value) (hw : ∀ d ∈ tables_1, d.before a0 Z = true) (ws : List Jvm.Cond) (a1 : Addr) (a2 : Addr) (p3 : Int32) (p4 : Int32) (p5 : Int32) (k6 : ClassId) (p8 : Int32) (h0 : Heap) (n0 : Nat) (OL0 : Old Z n0 h0) (pr1 : Arv Z h0 a2 k6 .char (3 : Int32) [(.int p3), (.int p4), (.int p5)] (.int (0 : Int32))) (pr2 : Sta Z Z.heap "java/lang/String" "COMPACT_STRINGS" "Z" (.int p8)) (pr3 : ¬ (p8 = (0 : Int32))) (pr4 : ¬ ((255 : Int32) < p3)) (pr5 : ¬ ((255 : Int32) < p4)) (pr6 : ¬ ((255 : Int32) < p5)) (pr7 : Exa Z h0 a1 "java/lang/String") (pr8 : Fld Z h0 a1 "java/lang/String" "coder" "B" (.int (0 : Int32))) (pr9 : n0 ≤ a1) (pr10 : Fld Z h0 a1 "java/lang/String" "value" "[B" .null) :
    MetFree l mn2 (head1 (Jvm.Cond.code mn2 jdk_42_method_3_code 2 none :: ws) ({ frames := 3, cells := 1, slots := 3, locals := 52 } : Room)) (fun a U => a = #[(.ref a1), (.ref a2)] ∧ Z.Warmed39 U.vm ∧ U.heap = h0) (fun _ _ _ _ _ => True) (fun _ U o U' => ∃ v L, o = .returned v ∧ Q_rm2_7 Z a1 a2 p3 p4 p5 k6 p8 h0 n0 v U'.heap L ∧ FrameEnd U o U' L ({ frames := 3, cells := 1, slots := 3, locals := 52 } : Room).cells ({ frames := 3, cells := 1, slots := 3, locals := 52 } : Room).slots) := by
  refine MetFree.of_bodySF (plainFor_of_name pn_0) hisR ?_
  intro p e s m args below meth c s₁ Bd hml0 hP hK
  obtain ⟨rfl, hZ, hh⟩ := hP
  have hx := Bd.exec
  have hby := Bd.bytes
  have hml : c.maxLocals = 2 := hml0
  have hown : s.vm.findClass "java/lang/String" = some m.cls := findClass_of_methodNamed Bd.named
  have hnm := (name_of_methodNamed Bd.named Bd.method).1
  have X0 : Stand p l e ({ frames := 3, cells := 1, slots := 3, locals := 52 } : Room) s m #[(.ref a1), (.ref a2)] below meth c s₁ [] 0 0 := Stand.of_body Bd
  have e0 : s₁.heap = h0 := by rw [← hh, Bd.state]; rfl
  have N0 := Fr.nil n0
  have pre0 : ∀ t, SS p e below s₁ m 0 #[rv a1, rv a2] [] t → Steps p.tables e below (s₁.setTop (entryFrame m #[(.ref a1), (.ref a2)] 2)) t := fun t k => castTop (ef_2_1 m a1 a2) k
  obtain ⟨cl7, Ar7, -, Sz7, Nn7, -, -⟩ := id pr1
  obtain ⟨_, _, ⟨T9, L9, k9, n9⟩, -, X9, ⟨Lc9, hQ9, l9, y9, z9⟩, st9⟩ := X0.specialBack hx (y := mn3) rfl hown (mvT hZ (wd12 hw)) (mvT hZ (wd13 hw)) (mvT hZ (wd15 hw)) (by decide) (backOf (W := 0) (rm3_7 l Z a0 hw [] a1 a2 p8 p3 p4 p5 k6 h0 n0 OL0 pr2 pr3 pr1 pr4 pr5 pr6 pr7 pr8 pr9 pr10) hZ (wd15 hw) (wd7 hw) (by decide) (by decide)) (g := (mkF m 6 #[rv a1, rv a2] [.null, (.int (3 : Int32)), (.int (0 : Int32)), (.ref a2), (.ref a1)])) rfl (by rw [hml]; rfl) (Steps.refl _) (a := a1) (argsL := [(.ref a2), (.int (0 : Int32)), (.int (3 : Int32)), .null]) (rest := []) (lenOf pd_0 rfl) rfl (by show 2 * 0 + _ ≤ _; exact Nat.le_of_eq rfl) (hb hby d2_6) (fun _ _ => ⟨rfl, e0, (by decide : 0 + 1 ≤ _), (by decide : 0 + 3 ≤ _)⟩)
  dsimp only [Pt.U, Pt.locs, Pt.cells, Pt.slots] at X9 l9 y9 z9 st9 hQ9
  subst l9 y9 z9
  obtain ⟨b9_0, kx9_0, rfl, Nq9, K9, u9_0, u9_1, u9_2, u9_3⟩ := hQ9
  have KK9 : Keep h0 T9.heap [a1] := (Keep.refl h0 [a1]).trans K9 (allS (Or.inl (List.mem_of_getElem? (i := 0) rfl)) all0)
  have OL9 := OL0.keep K9 (allS pr9 all0)
  have g_b9_0 : n0 ≤ b9_0 := Nat.le_trans (Nat.le_trans (Nat.le_of_eq OL0.1.symm) OL0.2.1) u9_0
  have sz_b9_0 : h0.size ≤ b9_0 := Nat.le_trans (Keep.refl h0 [a1]).1 u9_0
  have N9 := Fr.app N0 Nq9
  obtain ⟨fs, hr, hrun, hended, hW, hsame⟩ := X9.leave (v := none) (fun _ => rfl)
  refine ⟨_, _, pre0 _ ?_, hrun, hended, _, _, rfl, ?_, ⟨_, rfl⟩, hW, hsame.mono (by decide) (by decide)⟩
  · show SS p e below s₁ m 0 #[rv a1, rv a2] [] _
    refine XS.aloadN X0.here hx rfl (hb hby d2_0) rfl rfl ?_
    refine XS.aloadN X0.here hx rfl (hb hby d2_1) rfl rfl ?_
    refine XS.iconst X0.here hx rfl (hb hby d2_2) ?_
    refine XS.aloadN X0.here hx rfl (hb hby d2_3) rfl rfl ?_
    show SS p e below s₁ m 4 #[rv a1, rv a2] [(.ref a2), (.int (0 : Int32)), (.ref a2), (.ref a1)] _
    refine X0.arraylength hx (by rw [e0]; exact Ar7.1) (State.isArrayOf_alike hZ.alike Ar7.2.1) (g := (mkF m 4 #[rv a1, rv a2] [(.ref a2), (.int (0 : Int32)), (.ref a2), (.ref a1)])) rfl rfl (hb hby d2_4) _ ?_
    rw [len_of Sz7 Nn7]
    show SS p e below s₁ m 5 #[rv a1, rv a2] [(.int (3 : Int32)), (.int (0 : Int32)), (.ref a2), (.ref a1)] _
    refine XS.aconstNull X0.here hx rfl (hb hby d2_5) ?_
    show SS p e below s₁ m 6 #[rv a1, rv a2] [.null, (.int (3 : Int32)), (.int (0 : Int32)), (.ref a2), (.ref a1)] _
    refine st9.trans ?_
    show SS p e below T9 m 9 #[rv a1, rv a2] [] _
    exact X9.returnOut hx Bd.returns (hb hby d2_9) hr
  · show Q_rm2_7 Z a1 a2 p3 p4 p5 k6 p8 h0 n0 _ T9.heap _
    exact ⟨b9_0, kx9_0, rfl, N9, KK9, sz_b9_0, u9_1, u9_2, u9_3⟩
def Q_rm1_9 (Z : State) (p1 : Int32) (p2 : Int32) (p3 : Int32) (p12 : Int32) (h0 : Heap) (n0 : Nat) (v : Option Value) (h : Heap) (L : List Loc) : Prop := ∃ b4 : Addr, ∃ b13_0 : Addr, ∃ kx13_0 : ClassId, v = some (.ref b4) ∧ Fr n0 L ∧ Keep h0 h [] ∧ h0.size ≤ b4 ∧ h0.size ≤ b13_0 ∧ b4 ≠ b13_0 ∧ Exa Z h b4 "java/lang/String" ∧ Fld Z h b4 "java/lang/String" "coder" "B" (.int (0 : Int32)) ∧ Fld Z h b4 "java/lang/String" "value" "[B" (.ref b13_0) ∧ Arv Z h b13_0 kx13_0 .byte (3 : Int32) [(.int (((nar .char p1).toInt8.toInt32).toInt8.toInt32)), (.int (((nar .char p2).toInt8.toInt32).toInt8.toInt32)), (.int (((nar .char p3).toInt8.toInt32).toInt8.toInt32))] (.int (0 : Int32))
set_option maxRecDepth 65536 in
set_option maxHeartbeats 40000000 in
theorem rm1_9 (l : Launch) (Z : State) (a0 : Array Value) (hw : ∀ d ∈ tables_1, d.before a0 Z = true) (ws : List Jvm.Cond) (p1 : Int32) (p2 : Int32) (p3 : Int32) (p12 : Int32) (h0 : Heap) (n0 : Nat) (OL0 : Old Z n0 h0) (pr1 : Sta Z Z.heap "java/lang/String" "COMPACT_STRINGS" "Z" (.int p12)) (pr2 : ¬ (p12 = (0 : Int32))) (pr3 : ¬ ((255 : Int32) < (nar .char p1))) (pr4 : ¬ ((255 : Int32) < (nar .char p2))) (pr5 : ¬ ((255 : Int32) < (nar .char p3))) :
    MetFree l mn1 (head1 (Jvm.Cond.code mn1 method_2_code 4 (some (.object "java/lang/String")) :: ws) ({ frames := 4, cells := 3, slots := 10, locals := 66 } : Room)) (fun a U => a = #[(.int (3 : Int32)), (.int p1), (.int p2), (.int p3)] ∧ Z.Warmed39 U.vm ∧ U.heap = h0) (fun _ _ _ _ _ => True) (fun _ U o U' => ∃ v L, o = .returned v ∧ Q_rm1_9 Z p1 p2 p3 p12 h0 n0 v U'.heap L ∧ FrameEnd U o U' L ({ frames := 4, cells := 3, slots := 10, locals := 66 } : Room).cells ({ frames := 4, cells := 3, slots := 10, locals := 66 } : Room).slots) := by
  refine MetFree.of_bodySF (plainFor_of_name pn_1) hisR ?_
  intro p e s m args below meth c s₁ Bd hml0 hP hK
  obtain ⟨rfl, hZ, hh⟩ := hP
  have hx := Bd.exec
  have hby := Bd.bytes
  have hml : c.maxLocals = 4 := hml0
  have hown : s.vm.findClass "com/example/aeroslice/aeroslice/SrsDefaultsOfPinLaw" = some m.cls := findClass_of_methodNamed Bd.named
  have hnm := (name_of_methodNamed Bd.named Bd.method).1
  have X0 : Stand p l e ({ frames := 4, cells := 3, slots := 10, locals := 66 } : Room) s m #[(.int (3 : Int32)), (.int p1), (.int p2), (.int p3)] below meth c s₁ [] 0 0 := Stand.of_body Bd
  have e0 : s₁.heap = h0 := by rw [← hh, Bd.state]; rfl
  have N0 := Fr.nil n0
  have pre0 : ∀ t, SS p e below s₁ m 0 #[iv (3 : Int32), iv p1, iv p2, iv p3] [] t → Steps p.tables e below (s₁.setTop (entryFrame m #[(.int (3 : Int32)), (.int p1), (.int p2), (.int p3)] 4)) t := fun t k => castTop (ef_1_36 m p1 p2 p3) k
  obtain ⟨T4, h4, X4, e4, E4, A4, D4, -, st4⟩ := newO X0 hx hZ hown (wd5 hw) (wd6 hw) (wd7 hw) e0 (g := (mkF m 49 #[iv (3 : Int32), iv p1, iv p2, iv p3] [])) rfl (hb hby d1_49) (by decide) (by decide)
  obtain ⟨b4, g4⟩ : ∃ z, z = h0.size := ⟨_, rfl⟩
  rw [← g4] at A4 D4 st4
  have g_b4 : n0 ≤ b4 := (Nat.le_trans (Nat.le_trans (Nat.le_of_eq OL0.1.symm) OL0.2.1) (Nat.le_of_eq g4.symm))
  have sz_b4 : h0.size ≤ b4 := (Nat.le_trans (Keep.refl h0 []).1 (Nat.le_of_eq g4.symm))
  have KK4 : Keep h0 h4 [] := (Keep.refl h0 []).ext E4
  have OL4 := OL0.ext E4
  have F_coder_b4 : Fld Z h4 b4 "java/lang/String" "coder" "B" (.int (0 : Int32)) := D4 (Or.inr (wd32 hw)) (ty := .byte) (by decide)
  have F_value_b4 : Fld Z h4 b4 "java/lang/String" "value" "[B" .null := D4 (Or.inr (wd34 hw)) (ty := (.array .byte)) (by decide)
  obtain ⟨T5, h5, k5, X5, e5, E5, A5, st5⟩ := newP (aty := .char) X4 hx hZ (wd8 hw) e4 (g := (mkF m 54 #[iv (3 : Int32), iv p1, iv p2, iv p3] [(.int (3 : Int32)), (.ref b4), (.ref b4)])) rfl (hb hby d1_54) rfl (by decide) (cap := 3) (by decide) (by decide) (by decide) (by decide)
  obtain ⟨b5, g5⟩ : ∃ z, z = h4.size := ⟨_, rfl⟩
  rw [← g5] at A5 st5
  have V5 : Arv Z h5 b5 k5 .char (3 : Int32) [(.int (0 : Int32)), (.int (0 : Int32)), (.int (0 : Int32))] (.int (0 : Int32)) := (Arv.new A5 (by decide)).pad (pad_rep [] (.int (0 : Int32)) 3)
  have g_b5 : n0 ≤ b5 := (Nat.le_trans (Nat.le_trans (Nat.le_of_eq OL4.1.symm) OL4.2.1) (Nat.le_of_eq g5.symm))
  have sz_b5 : h0.size ≤ b5 := (Nat.le_trans KK4.1 (Nat.le_of_eq g5.symm))
  have KK5 : Keep h0 h5 [] := KK4.ext E5
  have OL5 := OL4.ext E5
  obtain ⟨cl6, Ar6, q6, S6, M6, Hs6, G6⟩ := id V5
  have hin6 : ¬ ((0 : Int32) < 0 ∨ cl6.slots.size ≤ ((0 : Int32)).toNatClampNeg) := inb_of S6 ⟨by decide, by decide⟩
  obtain ⟨T7, h7, X7, e7, W7, st7⟩ := stC X5 hx hZ e5 Ar6 (j := (0 : Int32)) hin6 (g := (mkF m 59 #[iv (3 : Int32), iv p1, iv p2, iv p3] [(.int p1), (.int (0 : Int32)), (.ref b5), (.ref b5), (.ref b4), (.ref b4)])) rfl rfl (hb hby d1_59)
  have V7 : Arv Z h7 b5 k5 .char (3 : Int32) [(.int (nar .char p1)), (.int (0 : Int32)), (.int (0 : Int32))] (.int (0 : Int32)) := Arv.set Ar6 q6 S6 M6 Hs6 G6 (fits_nar_char _) W7 0 rfl (Nat.le_of_ble_eq_true rfl)
  have KK7 : Keep h0 h7 [] := KK5.wr W7 (Or.inr sz_b5)
  have OL7 := OL5.wr W7 g_b5
  have N7 := Fr.snoc X7 N0 g_b5
  obtain ⟨cl8, Ar8, q8, S8, M8, Hs8, G8⟩ := id V7
  have hin8 : ¬ ((1 : Int32) < 0 ∨ cl8.slots.size ≤ ((1 : Int32)).toNatClampNeg) := inb_of S8 ⟨by decide, by decide⟩
  obtain ⟨T9, h9, X9, e9, W9, st9⟩ := stC X7 hx hZ e7 Ar8 (j := (1 : Int32)) hin8 (g := (mkF m 63 #[iv (3 : Int32), iv p1, iv p2, iv p3] [(.int p2), (.int (1 : Int32)), (.ref b5), (.ref b5), (.ref b4), (.ref b4)])) rfl rfl (hb hby d1_63)
  have V9 : Arv Z h9 b5 k5 .char (3 : Int32) [(.int (nar .char p1)), (.int (nar .char p2)), (.int (0 : Int32))] (.int (0 : Int32)) := Arv.set Ar8 q8 S8 M8 Hs8 G8 (fits_nar_char _) W9 1 rfl (Nat.le_of_ble_eq_true rfl)
  have KK9 : Keep h0 h9 [] := KK7.wr W9 (Or.inr sz_b5)
  have OL9 := OL7.wr W9 g_b5
  have N9 := Fr.snoc X9 N7 g_b5
  obtain ⟨cl10, Ar10, q10, S10, M10, Hs10, G10⟩ := id V9
  have hin10 : ¬ ((2 : Int32) < 0 ∨ cl10.slots.size ≤ ((2 : Int32)).toNatClampNeg) := inb_of S10 ⟨by decide, by decide⟩
  obtain ⟨T11, h11, X11, e11, W11, st11⟩ := stC X9 hx hZ e9 Ar10 (j := (2 : Int32)) hin10 (g := (mkF m 67 #[iv (3 : Int32), iv p1, iv p2, iv p3] [(.int p3), (.int (2 : Int32)), (.ref b5), (.ref b5), (.ref b4), (.ref b4)])) rfl rfl (hb hby d1_67)
  have V11 : Arv Z h11 b5 k5 .char (3 : Int32) [(.int (nar .char p1)), (.int (nar .char p2)), (.int (nar .char p3))] (.int (0 : Int32)) := Arv.set Ar10 q10 S10 M10 Hs10 G10 (fits_nar_char _) W11 2 rfl (Nat.le_of_ble_eq_true rfl)
  have KK11 : Keep h0 h11 [] := KK9.wr W11 (Or.inr sz_b5)
  have OL11 := OL9.wr W11 g_b5
  have N11 := Fr.snoc X11 N9 g_b5
  have fc14 := ((((A4.ext E5).wr W7).wr W9).wr W11)
  have fc15 := ((((F_coder_b4.ext E5).other W7 (Or.inl (Nat.ne_of_lt (Nat.lt_of_lt_of_le F_value_b4.lt (Nat.le_of_eq g5.symm))))).other W9 (Or.inl (Nat.ne_of_lt (Nat.lt_of_lt_of_le F_value_b4.lt (Nat.le_of_eq g5.symm))))).other W11 (Or.inl (Nat.ne_of_lt (Nat.lt_of_lt_of_le F_value_b4.lt (Nat.le_of_eq g5.symm)))))
  have fc16 := ((((F_value_b4.ext E5).other W7 (Or.inl (Nat.ne_of_lt (Nat.lt_of_lt_of_le F_value_b4.lt (Nat.le_of_eq g5.symm))))).other W9 (Or.inl (Nat.ne_of_lt (Nat.lt_of_lt_of_le F_value_b4.lt (Nat.le_of_eq g5.symm))))).other W11 (Or.inl (Nat.ne_of_lt (Nat.lt_of_lt_of_le F_value_b4.lt (Nat.le_of_eq g5.symm)))))
  obtain ⟨_, _, ⟨T13, L13, k13, n13⟩, -, X13, ⟨Lc13, hQ13, l13, y13, z13⟩, st13⟩ := X11.specialBack hx (y := mn2) rfl hown (mvT hZ (wd9 hw)) (mvT hZ (wd10 hw)) (mvT hZ (wd11 hw)) (by decide) (backOf (W := 1) (rm2_7 l Z a0 hw [] b4 b5 (nar .char p1) (nar .char p2) (nar .char p3) k5 p12 h11 n0 OL11 V11 pr1 pr2 pr3 pr4 pr5 fc14 fc15 g_b4 fc16) hZ (wd11 hw) (wd7 hw) (by decide) (by decide)) (g := (mkF m 68 #[iv (3 : Int32), iv p1, iv p2, iv p3] [(.ref b5), (.ref b4), (.ref b4)])) rfl (by rw [hml]; rfl) (Steps.refl _) (a := b4) (argsL := [(.ref b5)]) (rest := [(.ref b4)]) (lenOf pd_1 rfl) rfl (by show 2 * 0 + _ ≤ _; exact Nat.le_of_eq rfl) (hb hby d1_68) (fun _ _ => ⟨rfl, e11, (by decide : 2 + 1 ≤ _), (by decide : 7 + 3 ≤ _)⟩)
  dsimp only [Pt.U, Pt.locs, Pt.cells, Pt.slots] at X13 l13 y13 z13 st13 hQ13
  subst l13 y13 z13
  obtain ⟨b13_0, kx13_0, rfl, Nq13, K13, u13_0, u13_1, u13_2, u13_3⟩ := hQ13
  have KK13 : Keep h0 T13.heap [] := KK11.trans K13 (allS (Or.inr sz_b4) all0)
  have OL13 := OL11.keep K13 (allS g_b4 all0)
  have g_b13_0 : n0 ≤ b13_0 := Nat.le_trans (Nat.le_trans (Nat.le_of_eq OL11.1.symm) OL11.2.1) u13_0
  have sz_b13_0 : h0.size ≤ b13_0 := Nat.le_trans KK11.1 u13_0
  have N13 := Fr.app N11 Nq13
  have fc17 := (fc14.keep K13)
  obtain ⟨fs, hr, hrun, hended, hW, hsame⟩ := X13.leave (v := some (.ref b4)) (fun h => by rw [Bd.returns] at h; cases h)
  refine ⟨_, _, pre0 _ ?_, hrun, hended, _, _, rfl, ?_, ⟨_, rfl⟩, hW, hsame.mono (by decide) (by decide)⟩
  · show SS p e below s₁ m 0 #[iv (3 : Int32), iv p1, iv p2, iv p3] [] _
    refine XS.iloadN X0.here hx rfl (hb hby d1_0) rfl ?_
    show SS p e below s₁ m 1 #[iv (3 : Int32), iv p1, iv p2, iv p3] [(.int (3 : Int32))] _
    refine XS.ifYes X0.here hx rfl (pc0 := 1) (pc' := 15) rfl (hb hby d1_1) rfl ((if0 _ _).trans (feq (by decide : ¬ ((3 : Int32) = (0 : Int32)))).2) (by decide) (by decide) ?_
    show SS p e below s₁ m 15 #[iv (3 : Int32), iv p1, iv p2, iv p3] [] _
    refine XS.iloadN X0.here hx rfl (hb hby d1_15) rfl ?_
    refine XS.iconst X0.here hx rfl (hb hby d1_16) ?_
    show SS p e below s₁ m 17 #[iv (3 : Int32), iv p1, iv p2, iv p3] [(.int (1 : Int32)), (.int (3 : Int32))] _
    refine XS.icmpYes X0.here hx rfl (pc0 := 17) (pc' := 25) rfl (hb hby d1_17) rfl (feq (by decide : ¬ ((3 : Int32) = (1 : Int32)))).2 (by decide) (by decide) ?_
    show SS p e below s₁ m 25 #[iv (3 : Int32), iv p1, iv p2, iv p3] [] _
    refine XS.iloadN X0.here hx rfl (hb hby d1_25) rfl ?_
    refine XS.iconst X0.here hx rfl (hb hby d1_26) ?_
    show SS p e below s₁ m 27 #[iv (3 : Int32), iv p1, iv p2, iv p3] [(.int (2 : Int32)), (.int (3 : Int32))] _
    refine XS.icmpYes X0.here hx rfl (pc0 := 27) (pc' := 49) rfl (hb hby d1_27) rfl (feq (by decide : ¬ ((3 : Int32) = (2 : Int32)))).2 (by decide) (by decide) ?_
    show SS p e below s₁ m 49 #[iv (3 : Int32), iv p1, iv p2, iv p3] [] _
    refine st4 _ ?_
    show SS p e below T4 m 52 #[iv (3 : Int32), iv p1, iv p2, iv p3] [(.ref b4)] _
    refine XS.dup X4.here hx rfl (hb hby d1_52) rfl rfl ?_
    refine XS.iconst X4.here hx rfl (hb hby d1_53) ?_
    show SS p e below T4 m 54 #[iv (3 : Int32), iv p1, iv p2, iv p3] [(.int (3 : Int32)), (.ref b4), (.ref b4)] _
    refine st5 _ ?_
    show SS p e below T5 m 56 #[iv (3 : Int32), iv p1, iv p2, iv p3] [(.ref b5), (.ref b4), (.ref b4)] _
    refine XS.dup X5.here hx rfl (hb hby d1_56) rfl rfl ?_
    refine XS.iconst X5.here hx rfl (hb hby d1_57) ?_
    refine XS.iloadN X5.here hx rfl (hb hby d1_58) rfl ?_
    show SS p e below T5 m 59 #[iv (3 : Int32), iv p1, iv p2, iv p3] [(.int p1), (.int (0 : Int32)), (.ref b5), (.ref b5), (.ref b4), (.ref b4)] _
    refine st7 _ ?_
    show SS p e below T7 m 60 #[iv (3 : Int32), iv p1, iv p2, iv p3] [(.ref b5), (.ref b4), (.ref b4)] _
    refine XS.dup X7.here hx rfl (hb hby d1_60) rfl rfl ?_
    refine XS.iconst X7.here hx rfl (hb hby d1_61) ?_
    refine XS.iloadN X7.here hx rfl (hb hby d1_62) rfl ?_
    show SS p e below T7 m 63 #[iv (3 : Int32), iv p1, iv p2, iv p3] [(.int p2), (.int (1 : Int32)), (.ref b5), (.ref b5), (.ref b4), (.ref b4)] _
    refine st9 _ ?_
    show SS p e below T9 m 64 #[iv (3 : Int32), iv p1, iv p2, iv p3] [(.ref b5), (.ref b4), (.ref b4)] _
    refine XS.dup X9.here hx rfl (hb hby d1_64) rfl rfl ?_
    refine XS.iconst X9.here hx rfl (hb hby d1_65) ?_
    refine XS.iloadN X9.here hx rfl (hb hby d1_66) rfl ?_
    show SS p e below T9 m 67 #[iv (3 : Int32), iv p1, iv p2, iv p3] [(.int p3), (.int (2 : Int32)), (.ref b5), (.ref b5), (.ref b4), (.ref b4)] _
    refine st11 _ ?_
    show SS p e below T11 m 68 #[iv (3 : Int32), iv p1, iv p2, iv p3] [(.ref b5), (.ref b4), (.ref b4)] _
    refine st13.trans ?_
    show SS p e below T13 m 71 #[iv (3 : Int32), iv p1, iv p2, iv p3] [(.ref b4)] _
    jvm_step X13.here [X13.here.top, hx, (hb hby d1_71), X13.method', Bd.returns, Value.isRef, FieldType.isReference]
    first | (intro acts; rw [hr _ acts rfl rfl rfl]) | rw [hr _ _ rfl rfl rfl]
    exact Steps.refl _
  · show Q_rm1_9 Z p1 p2 p3 p12 h0 n0 _ T13.heap _
    exact ⟨b4, b13_0, kx13_0, rfl, N13, KK13, sz_b4, sz_b13_0, (Nat.ne_of_lt (Nat.lt_of_lt_of_le (Nat.lt_of_lt_of_le (Nat.lt_of_lt_of_le (Nat.lt_of_lt_of_le (Nat.lt_of_lt_of_le F_value_b4.lt E5.1) (Nat.le_of_eq W7.size.symm)) (Nat.le_of_eq W9.size.symm)) (Nat.le_of_eq W11.size.symm)) u13_0)), fc17, u13_1, u13_2, u13_3⟩
theorem d8_4 : decode prog_22_method_2_code 4 = .ok (.getstatic 17, 3) := by decide +kernel
theorem d8_7 : decode prog_22_method_2_code 7 = .ok (.goto 14, 3) := by decide +kernel
theorem ef_8_38 (m : MethodId)  : entryFrame m #[.null] 1 = mkF m 0 #[.val .null] [] := by first | (simp [entryFrame, mkF, argsToLocals, Value.category]; done) | rfl
def Q_rm8_1 (Z : State) (w1 : Addr) (h0 : Heap) (n0 : Nat) (v : Option Value) (h : Heap) (L : List Loc) : Prop := v = some (.ref w1) ∧ Fr n0 L ∧ h = h0
set_option maxRecDepth 65536 in
set_option maxHeartbeats 40000000 in
theorem rm8_1 (l : Launch) (Z : State) (a0 : Array Value) (hw : ∀ d ∈ tables_1, d.before a0 Z = true) (ws : List Jvm.Cond) (w1 : Addr) (h0 : Heap) (n0 : Nat) (OL0 : Old Z n0 h0) (pr1 : Sta Z Z.heap "com/example/aeroslice/aeroslice/SrsDefaults" "NONE" "Lcom/example/aeroslice/aeroslice/SrsDefaults;" (.ref w1)) :
    MetFree l mn8 (head1 (Jvm.Cond.code mn8 prog_22_method_2_code 1 (some (.object "com/example/aeroslice/aeroslice/SrsDefaults")) :: ws) ({ frames := 0, cells := 0, slots := 0, locals := 0 } : Room)) (fun a U => a = #[.null] ∧ Z.Warmed39 U.vm ∧ U.heap = h0) (fun _ _ _ _ _ => True) (fun _ U o U' => ∃ v L, o = .returned v ∧ Q_rm8_1 Z w1 h0 n0 v U'.heap L ∧ FrameEnd U o U' L ({ frames := 0, cells := 0, slots := 0, locals := 0 } : Room).cells ({ frames := 0, cells := 0, slots := 0, locals := 0 } : Room).slots) := by
  refine MetFree.of_bodySF (plainFor_of_name pn_3) hisR ?_
  intro p e s m args below meth c s₁ Bd hml0 hP hK
  obtain ⟨rfl, hZ, hh⟩ := hP
  have hx := Bd.exec
  have hby := Bd.bytes
  have hml : c.maxLocals = 1 := hml0
  have hown : s.vm.findClass "com/example/aeroslice/aeroslice/SrsDefaults" = some m.cls := findClass_of_methodNamed Bd.named
  have hnm := (name_of_methodNamed Bd.named Bd.method).1
  have X0 : Stand p l e ({ frames := 0, cells := 0, slots := 0, locals := 0 } : Room) s m #[.null] below meth c s₁ [] 0 0 := Stand.of_body Bd
  have e0 : s₁.heap = h0 := by rw [← hh, Bd.state]; rfl
  have N0 := Fr.nil n0
  have pre0 : ∀ t, SS p e below s₁ m 0 #[.val .null] [] t → Steps p.tables e below (s₁.setTop (entryFrame m #[.null] 1)) t := fun t k => castTop (ef_8_38 m ) k
  obtain ⟨T2, X2, e2, st2⟩ := getS2 X0 hx hZ hown (host := "") (Or.inl (wd77 hw)) Via.refl e0 (pr1.ext OL0.2) (g := (mkF m 4 #[.val .null] [])) rfl (hb hby d8_4)
  obtain ⟨fs, hr, hrun, hended, hW, hsame⟩ := X2.leave (v := some (.ref w1)) (fun h => by rw [Bd.returns] at h; cases h)
  refine ⟨_, _, pre0 _ ?_, hrun, hended, _, _, rfl, ?_, ⟨_, rfl⟩, hW, hsame.mono (by decide) (by decide)⟩
  · show SS p e below s₁ m 0 #[.val .null] [] _
    refine XS.aloadN X0.here hx rfl (hb hby d8_0) rfl rfl ?_
    show SS p e below s₁ m 1 #[.val .null] [.null] _
    refine XS.ifnonnullNo X0.here hx rfl (hb hby d8_1) rfl ?_
    show SS p e below s₁ m 4 #[.val .null] [] _
    refine st2 _ ?_
    show SS p e below T2 m 7 #[.val .null] [(.ref w1)] _
    refine XS.goto X2.here hx rfl (pc0 := 7) (pc' := 21) rfl (hb hby d8_7) (by decide) (by decide) ?_
    show SS p e below T2 m 21 #[.val .null] [(.ref w1)] _
    jvm_step X2.here [X2.here.top, hx, (hb hby d8_21), X2.method', Bd.returns, Value.isRef, FieldType.isReference]
    first | (intro acts; rw [hr _ acts rfl rfl rfl]) | rw [hr _ _ rfl rfl rfl]
    exact Steps.refl _
  · show Q_rm8_1 Z w1 h0 n0 _ T2.heap _
    rw [e2]
    exact ⟨rfl, N0, rfl⟩
def Q_rm11_1 (Z : State) (w1 : Addr) (w2 : Addr) (h0 : Heap) (n0 : Nat) (v : Option Value) (h : Heap) (L : List Loc) : Prop := v = some .null ∧ Fr n0 L ∧ h = h0
set_option maxRecDepth 65536 in
set_option maxHeartbeats 40000000 in
theorem rm11_1 (l : Launch) (Z : State) (a0 : Array Value) (hw : ∀ d ∈ tables_1, d.before a0 Z = true) (ws : List Jvm.Cond) (w1 : Addr) (w2 : Addr) (h0 : Heap) (n0 : Nat) (OL0 : Old Z n0 h0) (pr1 : Fld Z Z.heap w1 "com/example/aeroslice/aeroslice/SrsDefaults" "byProperty" "Ljava/util/Map;" (.ref w2)) (pr2 : Fld Z Z.heap w2 "java/util/ImmutableCollections$MapN" "size" "I" (.int (0 : Int32))) (pr3 : Exa Z Z.heap w2 "java/util/ImmutableCollections$MapN") (pr4 : Fld Z Z.heap w1 "com/example/aeroslice/aeroslice/SrsDefaults" "common" "Ljava/lang/String;" .null) :
    MetFree l mn11 (head1 (Jvm.Cond.code mn11 prog_22_method_3_code 1 (some (.object "java/lang/String")) :: ws) ({ frames := 1, cells := 0, slots := 0, locals := 12 } : Room)) (fun a U => a = #[(.ref w1)] ∧ Z.Warmed39 U.vm ∧ U.heap = h0) (fun _ _ _ _ _ => True) (fun _ U o U' => ∃ v L, o = .returned v ∧ Q_rm11_1 Z w1 w2 h0 n0 v U'.heap L ∧ FrameEnd U o U' L ({ frames := 1, cells := 0, slots := 0, locals := 12 } : Room).cells ({ frames := 1, cells := 0, slots := 0, locals := 12 } : Room).slots) := by
  refine MetFree.of_bodySF (plainFor_of_name pn_3) hisR ?_
  intro p e s m args below meth c s₁ Bd hml0 hP hK
  obtain ⟨rfl, hZ, hh⟩ := hP
  have hx := Bd.exec
  have hby := Bd.bytes
  have hml : c.maxLocals = 1 := hml0
  have hown : s.vm.findClass "com/example/aeroslice/aeroslice/SrsDefaults" = some m.cls := findClass_of_methodNamed Bd.named
  have hnm := (name_of_methodNamed Bd.named Bd.method).1
  have X0 : Stand p l e ({ frames := 1, cells := 0, slots := 0, locals := 12 } : Room) s m #[(.ref w1)] below meth c s₁ [] 0 0 := Stand.of_body Bd
  have e0 : s₁.heap = h0 := by rw [← hh, Bd.state]; rfl
  have N0 := Fr.nil n0
  have pre0 : ∀ t, SS p e below s₁ m 0 #[rv w1] [] t → Steps p.tables e below (s₁.setTop (entryFrame m #[(.ref w1)] 1)) t := fun t k => castTop (ef_11_7 m w1) k
  obtain ⟨T3, X3, e3, st3⟩ := getF X0 hx hZ hown (host := "") (Or.inl (wd53 hw)) Via.refl e0 (pr1.ext OL0.2) (g := (mkF m 1 #[rv w1] [(.ref w1)])) rfl rfl (hb hby d11_1)
  obtain ⟨cq4, kq4, q4a, q4b, q4c⟩ := isOf hZ e3 (pr3.ext OL0.2)
  obtain ⟨_, _, ⟨T4, L4, k4, n4⟩, -, X4, ⟨Lc4, hQ4, l4, y4, z4⟩, st4⟩ := X3.interfaceBack hx (xi := (⟨"java/util/Map", "isEmpty", "()Z"⟩ : MethodName)) (y := mn12) hown (mvT hZ (wd60 hw)) (mvT hZ (wd61 hw)) (mvT hZ (wd62 hw)) (mvT hZ (wd63 hw)) (mvT hZ (wd64 hw)) (mvT hZ (wd65 hw)) (mvT hZ (wd66 hw)) (mvT hZ (wd67 hw)) (by decide) (backOf (W := 0) (rm12_0 l Z a0 hw [] w2 h0 n0 OL0 pr2) hZ (wd69 hw) (wd68 hw) (by decide) (by decide)) q4a q4b q4c (g := (mkF m 4 #[rv w1] [(.ref w2)])) rfl (by rw [hml]; rfl) (Steps.refl _) (argsL := []) (rest := []) (lenOf pd_6 rfl) rfl (by show 2 * 0 + _ ≤ _; exact Nat.le_of_eq rfl) (hb hby d11_4) (fun _ _ => ⟨rfl, e3, (by decide : 0 + 0 ≤ _), (by decide : 0 + 0 ≤ _)⟩)
  dsimp only [Pt.U, Pt.locs, Pt.cells, Pt.slots] at X4 l4 y4 z4 st4 hQ4
  subst l4 y4 z4
  obtain ⟨rfl, Nq4, ec4⟩ := hQ4
  have N4 := Fr.app N0 Nq4
  obtain ⟨T5, X5, e5, st5⟩ := getF X4 hx hZ hown (host := "") (Or.inl (wd51 hw)) Via.refl ec4 (pr4.ext OL0.2) (g := (mkF m 23 #[rv w1] [(.ref w1)])) rfl rfl (hb hby d11_23)
  obtain ⟨fs, hr, hrun, hended, hW, hsame⟩ := X5.leave (v := some .null) (fun h => by rw [Bd.returns] at h; cases h)
  refine ⟨_, _, pre0 _ ?_, hrun, hended, _, _, rfl, ?_, ⟨_, rfl⟩, hW, hsame.mono (by decide) (by decide)⟩
  · show SS p e below s₁ m 0 #[rv w1] [] _
    refine XS.aloadN X0.here hx rfl (hb hby d11_0) rfl rfl ?_
    show SS p e below s₁ m 1 #[rv w1] [(.ref w1)] _
    refine st3 _ ?_
    show SS p e below T3 m 4 #[rv w1] [(.ref w2)] _
    refine st4.trans ?_
    show SS p e below T4 m 9 #[rv w1] [(.int (1 : Int32))] _
    refine XS.ifYes X4.here hx rfl (pc0 := 9) (pc' := 22) rfl (hb hby d11_9) rfl ((if0 _ _).trans (feq (by decide : ¬ ((1 : Int32) = (0 : Int32)))).2) (by decide) (by decide) ?_
    show SS p e below T4 m 22 #[rv w1] [] _
    refine XS.aloadN X4.here hx rfl (hb hby d11_22) rfl rfl ?_
    show SS p e below T4 m 23 #[rv w1] [(.ref w1)] _
    refine st5 _ ?_
    show SS p e below T5 m 26 #[rv w1] [.null] _
    jvm_step X5.here [X5.here.top, hx, (hb hby d11_26), X5.method', Bd.returns, Value.isRef, FieldType.isReference]
    first | (intro acts; rw [hr _ acts rfl rfl rfl]) | rw [hr _ _ rfl rfl rfl]
    exact Steps.refl _
  · show Q_rm11_1 Z w1 w2 h0 n0 _ T5.heap _
    rw [e5]
    exact ⟨rfl, N4, rfl⟩
theorem ef_0 (m : MethodId) (x0 : Int32) (x1 : Int32) (x2 : Int32) (x3 : Int32) (x4 : Int32) : entryFrame m #[(.int x0), (.int x1), (.int x2), (.int x3), (.int x4)] maxLocals = mkF m 0 #[.val (.int x0), .val (.int x1), .val (.int x2), .val (.int x3), .val (.int x4), .unset, .unset, .unset, .unset] [] := by first | (simp [entryFrame, mkF, argsToLocals, Value.category, maxLocals]; done) | rfl
set_option maxRecDepth 65536 in
set_option maxHeartbeats 400000000 in
theorem rm0 (l : Launch) (Z : State) (a0 : Array Value) (hw : ∀ d ∈ tables_1, d.before a0 Z = true) (ws : List Jvm.Cond) (p1 : Int32) (p2 : Int32) (p3 : Int32) (p4 : Int32) (p5 : Int32) (y1 : Int32) (y2 : Int32) (y3 : Int32) (y4 : Int32) (y5 : Int32) (y6 : Int32) (y7 : Int32) (w_EMPTY_MAP : Addr) (n_COMPACT_STRINGS : Int32) (w_NONE : Addr) (h0 : Heap) (n0 : Nat) (OL0 : Old Z n0 h0) (pr1 : (p1 &&& (1 : Int32)) = y1) (pr2 : (p3 &&& (65535 : Int32)) = y2) (pr3 : (y2.toUInt32.toUInt16.toUInt32.toInt32) = y3) (pr4 : (p4 &&& (65535 : Int32)) = y4) (pr5 : (y4.toUInt32.toUInt16.toUInt32.toInt32) = y5) (pr6 : (p5 &&& (65535 : Int32)) = y6) (pr7 : (y6.toUInt32.toUInt16.toUInt32.toInt32) = y7) (pr8 : Sta Z Z.heap "java/util/ImmutableCollections" "EMPTY_MAP" "Ljava/util/ImmutableCollections$MapN;" (.ref w_EMPTY_MAP)) (pr9 : Fld Z Z.heap w_EMPTY_MAP "java/util/ImmutableCollections$MapN" "size" "I" (.int (0 : Int32))) (pr10 : Exa Z Z.heap w_EMPTY_MAP "java/util/ImmutableCollections$MapN") (pr11 : Sta Z Z.heap "java/lang/String" "COMPACT_STRINGS" "Z" (.int n_COMPACT_STRINGS)) (pr12 : ¬ (n_COMPACT_STRINGS = (0 : Int32))) (pr13 : Sta Z Z.heap "java/lang/StringUTF16" "$assertionsDisabled" "Z" (.int (1 : Int32))) (pr14 : Sta Z Z.heap "java/lang/StringUTF16" "HI_BYTE_SHIFT" "I" (.int (0 : Int32))) (pr15 : Sta Z Z.heap "java/lang/StringUTF16" "LO_BYTE_SHIFT" "I" (.int (8 : Int32))) (pr16 : Sta Z Z.heap "com/example/aeroslice/aeroslice/SrsDefaults" "NONE" "Lcom/example/aeroslice/aeroslice/SrsDefaults;" (.ref w_NONE)) (pr17 : Fld Z Z.heap w_NONE "com/example/aeroslice/aeroslice/SrsDefaults" "byProperty" "Ljava/util/Map;" (.ref w_EMPTY_MAP)) (pr18 : Fld Z Z.heap w_NONE "com/example/aeroslice/aeroslice/SrsDefaults" "common" "Ljava/lang/String;" .null) (pr19 : Exa Z Z.heap w_NONE "com/example/aeroslice/aeroslice/SrsDefaults") :
    MetFree l x (head1 (Jvm.Cond.code x code maxLocals ret :: ws) room_1) (fun a U => a = #[(.int p1), (.int p2), (.int p3), (.int p4), (.int p5)] ∧ Z.Warmed39 U.vm ∧ U.heap = h0 ∧ CHv Z own_EL U.vm h0) (fun _ _ _ _ _ => True) (fun _ U o U' => ∃ v L, o = .returned v ∧ Q0 n0 v L ∧ ReturnedEndW U o U' L 24 1152) := by
  refine MetFree.of_bodySF (plainFor_of_name pn_1) hisR ?_
  intro p e s m args below meth c s₁ Bd hml0 hP hK
  obtain ⟨rfl, hZ, hh, H0⟩ := hP
  have hx := Bd.exec
  have hby := Bd.bytes
  have hml : c.maxLocals = 9 := hml0
  have hown : s.vm.findClass "com/example/aeroslice/aeroslice/SrsDefaultsOfPinLaw" = some m.cls := findClass_of_methodNamed Bd.named
  have hnm := (name_of_methodNamed Bd.named Bd.method).1
  have X0 : Stand p l e room_1 s m #[(.int p1), (.int p2), (.int p3), (.int p4), (.int p5)] below meth c s₁ [] 0 0 := Stand.of_body Bd
  have e0 : s₁.heap = h0 := by rw [← hh, Bd.state]; rfl
  have N0 := Fr.nil n0
  have pre0 : ∀ t, SS p e below s₁ m 0 #[iv p1, iv p2, iv p3, iv p4, iv p5, .unset, .unset, .unset, .unset] [] t → Steps p.tables e below (s₁.setTop (entryFrame m #[(.int p1), (.int p2), (.int p3), (.int p4), (.int p5)] maxLocals)) t := fun t k => castTop (ef_0 m p1 p2 p3 p4 p5) k
  have pre1 : ∀ t, SS p e below s₁ m 3 #[iv p1, iv p2, iv p3, iv p4, iv p5, .unset, .unset, .unset, .unset] [(.int y1)] t → Steps p.tables e below (s₁.setTop (entryFrame m #[(.int p1), (.int p2), (.int p3), (.int p4), (.int p5)] maxLocals)) t := by
    intro t kt
    refine pre0 _ ?_
    show SS p e below s₁ m 0 #[iv p1, iv p2, iv p3, iv p4, iv p5, .unset, .unset, .unset, .unset] [] _
    refine XS.iloadN X0.here hx rfl (hb hby at_0) rfl ?_
    refine XS.iconst X0.here hx rfl (hb hby at_1) ?_
    show SS p e below s₁ m 2 #[iv p1, iv p2, iv p3, iv p4, iv p5, .unset, .unset, .unset, .unset] [(.int (1 : Int32)), (.int p1)] _
    refine XS.iand X0.here hx rfl (hb hby at_2) rfl ?_
    show SS p e below s₁ m 3 #[iv p1, iv p2, iv p3, iv p4, iv p5, .unset, .unset, .unset, .unset] [(.int (p1 &&& (1 : Int32)))] _
    rw [pr1]
    exact kt
  by_cases hf1 : y1 = (0 : Int32)
  · have pre2 : ∀ t, SS p e below s₁ m 24 #[iv p1, iv p2, iv p3, iv p4, iv p5, iv (0 : Int32), .unset, .unset, .unset] [(.int (3 : Int32)), (.int p2)] t → Steps p.tables e below (s₁.setTop (entryFrame m #[(.int p1), (.int p2), (.int p3), (.int p4), (.int p5)] maxLocals)) t := by
      intro t kt
      refine pre1 _ ?_
      show SS p e below s₁ m 3 #[iv p1, iv p2, iv p3, iv p4, iv p5, .unset, .unset, .unset, .unset] [(.int y1)] _
      refine XS.ifYes X0.here hx rfl (pc0 := 3) (pc' := 10) rfl (hb hby at_3) rfl ((if0 _ _).trans (teq hf1).1) (by decide) (by decide) ?_
      show SS p e below s₁ m 10 #[iv p1, iv p2, iv p3, iv p4, iv p5, .unset, .unset, .unset, .unset] [] _
      refine XS.iconst X0.here hx rfl (hb hby at_10) ?_
      refine XS.istore X0.here hx rfl (hb hby at_11) rfl (l' := #[iv p1, iv p2, iv p3, iv p4, iv p5, iv (0 : Int32), .unset, .unset, .unset]) rfl ?_
      refine XS.iload X0.here hx rfl (hb hby at_13) rfl ?_
      show SS p e below s₁ m 15 #[iv p1, iv p2, iv p3, iv p4, iv p5, iv (0 : Int32), .unset, .unset, .unset] [(.int (0 : Int32))] _
      refine XS.ifYes X0.here hx rfl (pc0 := 15) (pc' := 22) rfl (hb hby at_15) rfl ((if0 _ _).trans (teq (rfl : (0 : Int32) = (0 : Int32))).1) (by decide) (by decide) ?_
      show SS p e below s₁ m 22 #[iv p1, iv p2, iv p3, iv p4, iv p5, iv (0 : Int32), .unset, .unset, .unset] [] _
      refine XS.iloadN X0.here hx rfl (hb hby at_22) rfl ?_
      refine XS.iconst X0.here hx rfl (hb hby at_23) ?_
      exact kt
    rcases own_and3 p2 with hf2 | hf2 | hf2 | hf2
    · obtain ⟨_, _, ⟨T3, L3, k3, n3⟩, -, Xa3, hSi3, hgr3, ⟨Lc3, hQ3, l3, y3, z3⟩, st3⟩ := callSS X0 hx (y := mn1) hown (mvT hZ (wd1 hw)) (mvT hZ (wd2 hw)) (mvT hZ (wd3 hw)) (mvT hZ (wd4 hw)) (by decide) (own_backC (s := s) (vm0 := s.vm) (W := 0) (rm1_0 l Z a0 hw [] y3 y5 y7 h0 n0 OL0 ) hZ (wd4 hw) (wd3 hw) (by decide) (by decide) (own_EW hw) H0) (g := (mkF m 41 #[iv p1, iv p2, iv p3, iv p4, iv p5, iv (0 : Int32), .unset, .unset, .unset] [(.int y7), (.int y5), (.int y3), (.int (0 : Int32))])) rfl (by rw [hml]; rfl) (argsL := [(.int (0 : Int32)), (.int y3), (.int y5), (.int y7)]) (rest := []) (lenOf pd_2 rfl) rfl (by show 2 * 0 + _ ≤ _; exact Nat.le_of_eq rfl) (hb hby at_41) (fun _ _ => ⟨rfl, e0, (by decide : 0 + 4 ≤ _), (by decide : 0 + 8 ≤ _)⟩)
      dsimp only [Pt.U, Pt.locs, Pt.cells, Pt.slots] at Xa3 l3 y3 z3 st3 hQ3 hSi3 hgr3
      subst l3 y3 z3
      obtain ⟨X3, hS3, hZ3, hown3⟩ := rebS (s := s) (vm0 := s.vm) ((State.WarmedH.refl s).since 0) (n1 := s₁.heap.size) (by rw [e0]; exact (Nat.zero_le _)) Xa3 hSi3 hgr3 hZ hown
      obtain ⟨b3_0, b3_1, rfl, Nq3, K3, u3_0, u3_1, u3_2, u3_3⟩ := hQ3
      have KK3 : Keep h0 T3.heap [] := (Keep.refl h0 []).trans K3 all0
      have OL3 := OL0.keep K3 all0
      have g_b3_0 : n0 ≤ b3_0 := Nat.le_trans (Nat.le_trans (Nat.le_of_eq OL0.1.symm) OL0.2.1) u3_0
      have sz_b3_0 : h0.size ≤ b3_0 := Nat.le_trans (Keep.refl h0 []).1 u3_0
      have N3 := Fr.app N0 Nq3
      obtain ⟨_, _, ⟨T4, L4, k4, n4⟩, -, X4, ⟨Lc4, hQ4, l4, y4, z4⟩, st4⟩ := Jvm.LawKit.callS X3 hx (y := mn8) hown3 (mvT hZ3 (wd35 hw)) (mvT hZ3 (wd36 hw)) (mvT hZ3 (wd37 hw)) (mvT hZ3 (wd38 hw)) (by decide) (backOf (W := 0) (rm8_0 l Z a0 hw [] b3_0 w_EMPTY_MAP T3.heap n0 OL3 pr8) hZ3 (wd38 hw) (wd37 hw) (by decide) (by decide)) (g := (mkF m 48 #[iv p1, iv p2, iv p3, iv p4, iv p5, iv (0 : Int32), rv b3_0, .unset, .unset] [(.ref b3_0)])) rfl (by rw [hml]; rfl) (argsL := [(.ref b3_0)]) (rest := []) (lenOf pd_5 rfl) rfl (by show 2 * 0 + _ ≤ _; exact Nat.le_of_eq rfl) (hb hby at_48) (fun _ _ => ⟨rfl, rfl, (by decide : 4 + 1 ≤ _), (by decide : 8 + 2 ≤ _)⟩)
      dsimp only [Pt.U, Pt.locs, Pt.cells, Pt.slots] at X4 l4 y4 z4 st4 hQ4
      subst l4 y4 z4
      obtain ⟨b4_0, rfl, Nq4, K4, u4_0, u4_1, u4_2, u4_3⟩ := hQ4
      have KK4 : Keep h0 T4.heap [] := KK3.trans K4 all0
      have OL4 := OL3.keep K4 all0
      have g_b4_0 : n0 ≤ b4_0 := Nat.le_trans (Nat.le_trans (Nat.le_of_eq OL3.1.symm) OL3.2.1) u4_0
      have sz_b4_0 : h0.size ≤ b4_0 := Nat.le_trans KK3.1 u4_0
      have N4 := Fr.app N3 Nq4
      obtain ⟨cq5, kq5, q5a, q5b, q5c⟩ := isOf hZ3 rfl u4_1
      obtain ⟨_, _, ⟨T5, L5, k5, n5⟩, -, X5, ⟨Lc5, hQ5, l5, y5, z5⟩, st5⟩ := X4.virtualBack hx (y := mn11) (z := mn11) hown3 (mvT hZ3 (wd55 hw)) (mvT hZ3 (wd56 hw)) (notFace_of_selects (args := #[]) (mvT hZ3 (wd58 hw))) (mvT hZ3 (wd58 hw)) (mvT hZ3 (wd57 hw)) (by decide) (backOf (W := 0) (rm11_0 l Z a0 hw [] b4_0 w_EMPTY_MAP b3_0 T4.heap n0 OL4 u4_3 pr9 pr10 u4_2) hZ3 (wd59 hw) (wd37 hw) (by decide) (by decide)) q5a q5c (g := (mkF m 62 #[iv p1, iv p2, iv p3, iv p4, iv p5, iv (0 : Int32), rv b3_0, rv b4_0, .unset] [(.ref b4_0)])) rfl (by rw [hml]; rfl) (Steps.refl _) (argsL := []) (rest := []) (lenOf pd_7 rfl) rfl (by show 2 * 0 + _ ≤ _; exact Nat.le_of_eq rfl) (hb hby at_62) (fun _ _ => ⟨rfl, rfl, (by decide : 5 + 0 ≤ _), (by decide : 10 + 0 ≤ _)⟩)
      dsimp only [Pt.U, Pt.locs, Pt.cells, Pt.slots] at X5 l5 y5 z5 st5 hQ5
      subst l5 y5 z5
      obtain ⟨rfl, Nq5, ec5⟩ := hQ5
      have N5 := Fr.app N4 Nq5
      have fc7 := (u3_1.keep K4)
      obtain ⟨cq6, kq6, q6a, q6b, q6c⟩ := isOf hZ3 ec5 fc7
      obtain ⟨_, _, ⟨T6, L6, k6, n6⟩, -, X6, ⟨Lc6, hQ6, l6, y6, z6⟩, st6⟩ := X5.virtualBack hx (y := mn13) (z := mn13) hown3 (mvT hZ3 (wd72 hw)) (mvT hZ3 (wd73 hw)) (notFace_of_selects (args := #[]) (mvT hZ3 (wd75 hw))) (mvT hZ3 (wd75 hw)) (mvT hZ3 (wd74 hw)) (by decide) (backOf (W := 0) (rm13_0 l Z a0 hw [] b3_0 T4.heap n0 OL4 ) hZ3 (wd76 hw) (wd7 hw) (by decide) (by decide)) q6a q6c (g := (mkF m 92 #[iv p1, iv p2, iv p3, iv p4, iv p5, iv (0 : Int32), rv b3_0, rv b4_0, rv b3_0] [(.ref b3_0), (.ref b3_0)])) rfl (by rw [hml]; rfl) (Steps.refl _) (argsL := [(.ref b3_0)]) (rest := []) (lenOf pd_8 rfl) rfl (by show 2 * 0 + _ ≤ _; exact Nat.le_of_eq rfl) (hb hby at_92) (fun _ _ => ⟨rfl, ec5, (by decide : 5 + 0 ≤ _), (by decide : 10 + 0 ≤ _)⟩)
      dsimp only [Pt.U, Pt.locs, Pt.cells, Pt.slots] at X6 l6 y6 z6 st6 hQ6
      subst l6 y6 z6
      obtain ⟨rfl, Nq6, ec6⟩ := hQ6
      have N6 := Fr.app N5 Nq6
      obtain ⟨fs, hr, hrun, hended, hRW⟩ := X6.leaveW (s := s) hS3 (by rw [ec6]; exact (Nat.le_trans (Nat.le_refl _) K4.1)) (v := some (.int (1 : Int32))) (fun h => by rw [Bd.returns] at h; cases h)
      refine ⟨_, _, pre2 _ ?_, hrun, hended, _, _, rfl, ⟨rfl, N6⟩, hRW.1, hRW.2.1, hRW.2.2.1, hRW.2.2.2.mono (by decide) (by decide)⟩
      show SS p e below s₁ m 24 #[iv p1, iv p2, iv p3, iv p4, iv p5, iv (0 : Int32), .unset, .unset, .unset] [(.int (3 : Int32)), (.int p2)] _
      refine XS.iand X0.here hx rfl (hb hby at_24) rfl ?_
      show SS p e below s₁ m 25 #[iv p1, iv p2, iv p3, iv p4, iv p5, iv (0 : Int32), .unset, .unset, .unset] [(.int (p2 &&& (3 : Int32)))] _
      rw [hf2]
      show SS p e below s₁ m 25 #[iv p1, iv p2, iv p3, iv p4, iv p5, iv (0 : Int32), .unset, .unset, .unset] [(.int (0 : Int32))] _
      refine XS.iloadN X0.here hx rfl (hb hby at_25) rfl ?_
      refine X0.ldcInt hx hown (mvT hZ (wd0 hw)) (g := (mkF m 26 #[iv p1, iv p2, iv p3, iv p4, iv p5, iv (0 : Int32), .unset, .unset, .unset] [(.int p3), (.int (0 : Int32))])) rfl (hb hby at_26) _ ?_
      show SS p e below s₁ m 28 #[iv p1, iv p2, iv p3, iv p4, iv p5, iv (0 : Int32), .unset, .unset, .unset] [(.int (65535 : Int32)), (.int p3), (.int (0 : Int32))] _
      refine XS.iand X0.here hx rfl (hb hby at_28) rfl ?_
      show SS p e below s₁ m 29 #[iv p1, iv p2, iv p3, iv p4, iv p5, iv (0 : Int32), .unset, .unset, .unset] [(.int (p3 &&& (65535 : Int32))), (.int (0 : Int32))] _
      rw [pr2]
      show SS p e below s₁ m 29 #[iv p1, iv p2, iv p3, iv p4, iv p5, iv (0 : Int32), .unset, .unset, .unset] [(.int y2), (.int (0 : Int32))] _
      refine XS.i2c X0.here hx rfl (hb hby at_29) rfl ?_
      show SS p e below s₁ m 30 #[iv p1, iv p2, iv p3, iv p4, iv p5, iv (0 : Int32), .unset, .unset, .unset] [(.int (y2.toUInt32.toUInt16.toUInt32.toInt32)), (.int (0 : Int32))] _
      rw [pr3]
      show SS p e below s₁ m 30 #[iv p1, iv p2, iv p3, iv p4, iv p5, iv (0 : Int32), .unset, .unset, .unset] [(.int y3), (.int (0 : Int32))] _
      refine XS.iloadN X0.here hx rfl (hb hby at_30) rfl ?_
      refine X0.ldcInt hx hown (mvT hZ (wd0 hw)) (g := (mkF m 31 #[iv p1, iv p2, iv p3, iv p4, iv p5, iv (0 : Int32), .unset, .unset, .unset] [(.int p4), (.int y3), (.int (0 : Int32))])) rfl (hb hby at_31) _ ?_
      show SS p e below s₁ m 33 #[iv p1, iv p2, iv p3, iv p4, iv p5, iv (0 : Int32), .unset, .unset, .unset] [(.int (65535 : Int32)), (.int p4), (.int y3), (.int (0 : Int32))] _
      refine XS.iand X0.here hx rfl (hb hby at_33) rfl ?_
      show SS p e below s₁ m 34 #[iv p1, iv p2, iv p3, iv p4, iv p5, iv (0 : Int32), .unset, .unset, .unset] [(.int (p4 &&& (65535 : Int32))), (.int y3), (.int (0 : Int32))] _
      rw [pr4]
      show SS p e below s₁ m 34 #[iv p1, iv p2, iv p3, iv p4, iv p5, iv (0 : Int32), .unset, .unset, .unset] [(.int y4), (.int y3), (.int (0 : Int32))] _
      refine XS.i2c X0.here hx rfl (hb hby at_34) rfl ?_
      show SS p e below s₁ m 35 #[iv p1, iv p2, iv p3, iv p4, iv p5, iv (0 : Int32), .unset, .unset, .unset] [(.int (y4.toUInt32.toUInt16.toUInt32.toInt32)), (.int y3), (.int (0 : Int32))] _
      rw [pr5]
      show SS p e below s₁ m 35 #[iv p1, iv p2, iv p3, iv p4, iv p5, iv (0 : Int32), .unset, .unset, .unset] [(.int y5), (.int y3), (.int (0 : Int32))] _
      refine XS.iload X0.here hx rfl (hb hby at_35) rfl ?_
      refine X0.ldcInt hx hown (mvT hZ (wd0 hw)) (g := (mkF m 37 #[iv p1, iv p2, iv p3, iv p4, iv p5, iv (0 : Int32), .unset, .unset, .unset] [(.int p5), (.int y5), (.int y3), (.int (0 : Int32))])) rfl (hb hby at_37) _ ?_
      show SS p e below s₁ m 39 #[iv p1, iv p2, iv p3, iv p4, iv p5, iv (0 : Int32), .unset, .unset, .unset] [(.int (65535 : Int32)), (.int p5), (.int y5), (.int y3), (.int (0 : Int32))] _
      refine XS.iand X0.here hx rfl (hb hby at_39) rfl ?_
      show SS p e below s₁ m 40 #[iv p1, iv p2, iv p3, iv p4, iv p5, iv (0 : Int32), .unset, .unset, .unset] [(.int (p5 &&& (65535 : Int32))), (.int y5), (.int y3), (.int (0 : Int32))] _
      rw [pr6]
      show SS p e below s₁ m 40 #[iv p1, iv p2, iv p3, iv p4, iv p5, iv (0 : Int32), .unset, .unset, .unset] [(.int y6), (.int y5), (.int y3), (.int (0 : Int32))] _
      refine XS.i2c X0.here hx rfl (hb hby at_40) rfl ?_
      show SS p e below s₁ m 41 #[iv p1, iv p2, iv p3, iv p4, iv p5, iv (0 : Int32), .unset, .unset, .unset] [(.int (y6.toUInt32.toUInt16.toUInt32.toInt32)), (.int y5), (.int y3), (.int (0 : Int32))] _
      rw [pr7]
      show SS p e below s₁ m 41 #[iv p1, iv p2, iv p3, iv p4, iv p5, iv (0 : Int32), .unset, .unset, .unset] [(.int y7), (.int y5), (.int y3), (.int (0 : Int32))] _
      refine st3.trans ?_
      show SS p e below T3 m 44 #[iv p1, iv p2, iv p3, iv p4, iv p5, iv (0 : Int32), .unset, .unset, .unset] [(.ref b3_0)] _
      refine XS.astore X3.here hx rfl (hb hby at_44) rfl rfl (l' := #[iv p1, iv p2, iv p3, iv p4, iv p5, iv (0 : Int32), rv b3_0, .unset, .unset]) rfl ?_
      refine XS.aload X3.here hx rfl (hb hby at_46) rfl rfl ?_
      show SS p e below T3 m 48 #[iv p1, iv p2, iv p3, iv p4, iv p5, iv (0 : Int32), rv b3_0, .unset, .unset] [(.ref b3_0)] _
      refine st4 _ ?_
      show SS p e below T4 m 51 #[iv p1, iv p2, iv p3, iv p4, iv p5, iv (0 : Int32), rv b3_0, .unset, .unset] [(.ref b4_0)] _
      refine XS.astore X4.here hx rfl (hb hby at_51) rfl rfl (l' := #[iv p1, iv p2, iv p3, iv p4, iv p5, iv (0 : Int32), rv b3_0, rv b4_0, .unset]) rfl ?_
      refine XS.aload X4.here hx rfl (hb hby at_53) rfl rfl ?_
      show SS p e below T4 m 55 #[iv p1, iv p2, iv p3, iv p4, iv p5, iv (0 : Int32), rv b3_0, rv b4_0, .unset] [(.ref b4_0)] _
      refine XS.ifnonnullYes X4.here hx rfl (pc0 := 55) (pc' := 60) rfl (hb hby at_55) rfl (by decide) (by decide) ?_
      show SS p e below T4 m 60 #[iv p1, iv p2, iv p3, iv p4, iv p5, iv (0 : Int32), rv b3_0, rv b4_0, .unset] [] _
      refine XS.aload X4.here hx rfl (hb hby at_60) rfl rfl ?_
      show SS p e below T4 m 62 #[iv p1, iv p2, iv p3, iv p4, iv p5, iv (0 : Int32), rv b3_0, rv b4_0, .unset] [(.ref b4_0)] _
      refine st5.trans ?_
      show SS p e below T5 m 65 #[iv p1, iv p2, iv p3, iv p4, iv p5, iv (0 : Int32), rv b3_0, rv b4_0, .unset] [(.ref b3_0)] _
      refine XS.astore X5.here hx rfl (hb hby at_65) rfl rfl (l' := #[iv p1, iv p2, iv p3, iv p4, iv p5, iv (0 : Int32), rv b3_0, rv b4_0, rv b3_0]) rfl ?_
      refine XS.aload X5.here hx rfl (hb hby at_67) rfl rfl ?_
      show SS p e below T5 m 69 #[iv p1, iv p2, iv p3, iv p4, iv p5, iv (0 : Int32), rv b3_0, rv b4_0, rv b3_0] [(.ref b3_0)] _
      refine XS.ifnonnullYes X5.here hx rfl (pc0 := 69) (pc' := 83) rfl (hb hby at_69) rfl (by decide) (by decide) ?_
      show SS p e below T5 m 83 #[iv p1, iv p2, iv p3, iv p4, iv p5, iv (0 : Int32), rv b3_0, rv b4_0, rv b3_0] [] _
      refine XS.aload X5.here hx rfl (hb hby at_83) rfl rfl ?_
      show SS p e below T5 m 85 #[iv p1, iv p2, iv p3, iv p4, iv p5, iv (0 : Int32), rv b3_0, rv b4_0, rv b3_0] [(.ref b3_0)] _
      refine XS.ifnullNo X5.here hx rfl (hb hby at_85) rfl ?_
      show SS p e below T5 m 88 #[iv p1, iv p2, iv p3, iv p4, iv p5, iv (0 : Int32), rv b3_0, rv b4_0, rv b3_0] [] _
      refine XS.aload X5.here hx rfl (hb hby at_88) rfl rfl ?_
      refine XS.aload X5.here hx rfl (hb hby at_90) rfl rfl ?_
      show SS p e below T5 m 92 #[iv p1, iv p2, iv p3, iv p4, iv p5, iv (0 : Int32), rv b3_0, rv b4_0, rv b3_0] [(.ref b3_0), (.ref b3_0)] _
      refine st6.trans ?_
      show SS p e below T6 m 95 #[iv p1, iv p2, iv p3, iv p4, iv p5, iv (0 : Int32), rv b3_0, rv b4_0, rv b3_0] [(.int (1 : Int32))] _
      refine XS.ifNo X6.here hx rfl (hb hby at_95) rfl ((if0 _ _).trans (feq (by decide : ¬ ((1 : Int32) = (0 : Int32)))).1) ?_
      show SS p e below T6 m 98 #[iv p1, iv p2, iv p3, iv p4, iv p5, iv (0 : Int32), rv b3_0, rv b4_0, rv b3_0] [] _
      refine XS.iconst X6.here hx rfl (hb hby at_98) ?_
      refine XS.goto X6.here hx rfl (pc0 := 99) (pc' := 103) rfl (hb hby at_99) (by decide) (by decide) ?_
      show SS p e below T6 m 103 #[iv p1, iv p2, iv p3, iv p4, iv p5, iv (0 : Int32), rv b3_0, rv b4_0, rv b3_0] [(.int (1 : Int32))] _
      exact retN X6 hx (t := .boolean) Bd.returns (by simp) (hb hby at_103) hr
    · have pre8 : ∀ t, SS p e below s₁ m 41 #[iv p1, iv p2, iv p3, iv p4, iv p5, iv (0 : Int32), .unset, .unset, .unset] [(.int y7), (.int y5), (.int y3), (.int (1 : Int32))] t → Steps p.tables e below (s₁.setTop (entryFrame m #[(.int p1), (.int p2), (.int p3), (.int p4), (.int p5)] maxLocals)) t := by
        intro t kt
        refine pre2 _ ?_
        show SS p e below s₁ m 24 #[iv p1, iv p2, iv p3, iv p4, iv p5, iv (0 : Int32), .unset, .unset, .unset] [(.int (3 : Int32)), (.int p2)] _
        refine XS.iand X0.here hx rfl (hb hby at_24) rfl ?_
        show SS p e below s₁ m 25 #[iv p1, iv p2, iv p3, iv p4, iv p5, iv (0 : Int32), .unset, .unset, .unset] [(.int (p2 &&& (3 : Int32)))] _
        rw [hf2]
        show SS p e below s₁ m 25 #[iv p1, iv p2, iv p3, iv p4, iv p5, iv (0 : Int32), .unset, .unset, .unset] [(.int (1 : Int32))] _
        refine XS.iloadN X0.here hx rfl (hb hby at_25) rfl ?_
        refine X0.ldcInt hx hown (mvT hZ (wd0 hw)) (g := (mkF m 26 #[iv p1, iv p2, iv p3, iv p4, iv p5, iv (0 : Int32), .unset, .unset, .unset] [(.int p3), (.int (1 : Int32))])) rfl (hb hby at_26) _ ?_
        show SS p e below s₁ m 28 #[iv p1, iv p2, iv p3, iv p4, iv p5, iv (0 : Int32), .unset, .unset, .unset] [(.int (65535 : Int32)), (.int p3), (.int (1 : Int32))] _
        refine XS.iand X0.here hx rfl (hb hby at_28) rfl ?_
        show SS p e below s₁ m 29 #[iv p1, iv p2, iv p3, iv p4, iv p5, iv (0 : Int32), .unset, .unset, .unset] [(.int (p3 &&& (65535 : Int32))), (.int (1 : Int32))] _
        rw [pr2]
        show SS p e below s₁ m 29 #[iv p1, iv p2, iv p3, iv p4, iv p5, iv (0 : Int32), .unset, .unset, .unset] [(.int y2), (.int (1 : Int32))] _
        refine XS.i2c X0.here hx rfl (hb hby at_29) rfl ?_
        show SS p e below s₁ m 30 #[iv p1, iv p2, iv p3, iv p4, iv p5, iv (0 : Int32), .unset, .unset, .unset] [(.int (y2.toUInt32.toUInt16.toUInt32.toInt32)), (.int (1 : Int32))] _
        rw [pr3]
        show SS p e below s₁ m 30 #[iv p1, iv p2, iv p3, iv p4, iv p5, iv (0 : Int32), .unset, .unset, .unset] [(.int y3), (.int (1 : Int32))] _
        refine XS.iloadN X0.here hx rfl (hb hby at_30) rfl ?_
        refine X0.ldcInt hx hown (mvT hZ (wd0 hw)) (g := (mkF m 31 #[iv p1, iv p2, iv p3, iv p4, iv p5, iv (0 : Int32), .unset, .unset, .unset] [(.int p4), (.int y3), (.int (1 : Int32))])) rfl (hb hby at_31) _ ?_
        show SS p e below s₁ m 33 #[iv p1, iv p2, iv p3, iv p4, iv p5, iv (0 : Int32), .unset, .unset, .unset] [(.int (65535 : Int32)), (.int p4), (.int y3), (.int (1 : Int32))] _
        refine XS.iand X0.here hx rfl (hb hby at_33) rfl ?_
        show SS p e below s₁ m 34 #[iv p1, iv p2, iv p3, iv p4, iv p5, iv (0 : Int32), .unset, .unset, .unset] [(.int (p4 &&& (65535 : Int32))), (.int y3), (.int (1 : Int32))] _
        rw [pr4]
        show SS p e below s₁ m 34 #[iv p1, iv p2, iv p3, iv p4, iv p5, iv (0 : Int32), .unset, .unset, .unset] [(.int y4), (.int y3), (.int (1 : Int32))] _
        refine XS.i2c X0.here hx rfl (hb hby at_34) rfl ?_
        show SS p e below s₁ m 35 #[iv p1, iv p2, iv p3, iv p4, iv p5, iv (0 : Int32), .unset, .unset, .unset] [(.int (y4.toUInt32.toUInt16.toUInt32.toInt32)), (.int y3), (.int (1 : Int32))] _
        rw [pr5]
        show SS p e below s₁ m 35 #[iv p1, iv p2, iv p3, iv p4, iv p5, iv (0 : Int32), .unset, .unset, .unset] [(.int y5), (.int y3), (.int (1 : Int32))] _
        refine XS.iload X0.here hx rfl (hb hby at_35) rfl ?_
        refine X0.ldcInt hx hown (mvT hZ (wd0 hw)) (g := (mkF m 37 #[iv p1, iv p2, iv p3, iv p4, iv p5, iv (0 : Int32), .unset, .unset, .unset] [(.int p5), (.int y5), (.int y3), (.int (1 : Int32))])) rfl (hb hby at_37) _ ?_
        show SS p e below s₁ m 39 #[iv p1, iv p2, iv p3, iv p4, iv p5, iv (0 : Int32), .unset, .unset, .unset] [(.int (65535 : Int32)), (.int p5), (.int y5), (.int y3), (.int (1 : Int32))] _
        refine XS.iand X0.here hx rfl (hb hby at_39) rfl ?_
        show SS p e below s₁ m 40 #[iv p1, iv p2, iv p3, iv p4, iv p5, iv (0 : Int32), .unset, .unset, .unset] [(.int (p5 &&& (65535 : Int32))), (.int y5), (.int y3), (.int (1 : Int32))] _
        rw [pr6]
        show SS p e below s₁ m 40 #[iv p1, iv p2, iv p3, iv p4, iv p5, iv (0 : Int32), .unset, .unset, .unset] [(.int y6), (.int y5), (.int y3), (.int (1 : Int32))] _
        refine XS.i2c X0.here hx rfl (hb hby at_40) rfl ?_
        show SS p e below s₁ m 41 #[iv p1, iv p2, iv p3, iv p4, iv p5, iv (0 : Int32), .unset, .unset, .unset] [(.int (y6.toUInt32.toUInt16.toUInt32.toInt32)), (.int y5), (.int y3), (.int (1 : Int32))] _
        rw [pr7]
        exact kt
      by_cases hf8 : (255 : Int32) < y3
      · obtain ⟨_, _, ⟨T9, L9, k9, n9⟩, -, X9, ⟨Lc9, hQ9, l9, y9, z9⟩, st9⟩ := Jvm.LawKit.callS X0 hx (y := mn1) hown (mvT hZ (wd1 hw)) (mvT hZ (wd2 hw)) (mvT hZ (wd3 hw)) (mvT hZ (wd4 hw)) (by decide) (backOf (W := 0) (rm1_1 l Z a0 hw [] y3 y5 y7 n_COMPACT_STRINGS h0 n0 OL0 pr11 pr12 hf8 pr13 pr14 pr15) hZ (wd4 hw) (wd3 hw) (by decide) (by decide)) (g := (mkF m 41 #[iv p1, iv p2, iv p3, iv p4, iv p5, iv (0 : Int32), .unset, .unset, .unset] [(.int y7), (.int y5), (.int y3), (.int (1 : Int32))])) rfl (by rw [hml]; rfl) (argsL := [(.int (1 : Int32)), (.int y3), (.int y5), (.int y7)]) (rest := []) (lenOf pd_2 rfl) rfl (by show 2 * 0 + _ ≤ _; exact Nat.le_of_eq rfl) (hb hby at_41) (fun _ _ => ⟨rfl, e0, (by decide : 0 + 2 ≤ _), (by decide : 0 + 6 ≤ _)⟩)
        dsimp only [Pt.U, Pt.locs, Pt.cells, Pt.slots] at X9 l9 y9 z9 st9 hQ9
        subst l9 y9 z9
        obtain ⟨b9_0, b9_1, kx9_0, rfl, Nq9, K9, u9_0, u9_1, u9_2, u9_3, u9_4, u9_5, u9_6⟩ := hQ9
        have KK9 : Keep h0 T9.heap [] := (Keep.refl h0 []).trans K9 all0
        have OL9 := OL0.keep K9 all0
        have g_b9_0 : n0 ≤ b9_0 := Nat.le_trans (Nat.le_trans (Nat.le_of_eq OL0.1.symm) OL0.2.1) u9_0
        have sz_b9_0 : h0.size ≤ b9_0 := Nat.le_trans (Keep.refl h0 []).1 u9_0
        have g_b9_1 : n0 ≤ b9_1 := Nat.le_trans (Nat.le_trans (Nat.le_of_eq OL0.1.symm) OL0.2.1) u9_1
        have sz_b9_1 : h0.size ≤ b9_1 := Nat.le_trans (Keep.refl h0 []).1 u9_1
        have N9 := Fr.app N0 Nq9
        obtain ⟨_, _, ⟨T10, L10, k10, n10⟩, -, X10, ⟨Lc10, hQ10, l10, y10, z10⟩, st10⟩ := Jvm.LawKit.callS X9 hx (y := mn8) hown (mvT hZ (wd35 hw)) (mvT hZ (wd36 hw)) (mvT hZ (wd37 hw)) (mvT hZ (wd38 hw)) (by decide) (backOf (W := 0) (rm8_0 l Z a0 hw [] b9_0 w_EMPTY_MAP T9.heap n0 OL9 pr8) hZ (wd38 hw) (wd37 hw) (by decide) (by decide)) (g := (mkF m 48 #[iv p1, iv p2, iv p3, iv p4, iv p5, iv (0 : Int32), rv b9_0, .unset, .unset] [(.ref b9_0)])) rfl (by rw [hml]; rfl) (argsL := [(.ref b9_0)]) (rest := []) (lenOf pd_5 rfl) rfl (by show 2 * 0 + _ ≤ _; exact Nat.le_of_eq rfl) (hb hby at_48) (fun _ _ => ⟨rfl, rfl, (by decide : 2 + 1 ≤ _), (by decide : 6 + 2 ≤ _)⟩)
        dsimp only [Pt.U, Pt.locs, Pt.cells, Pt.slots] at X10 l10 y10 z10 st10 hQ10
        subst l10 y10 z10
        obtain ⟨b10_0, rfl, Nq10, K10, u10_0, u10_1, u10_2, u10_3⟩ := hQ10
        have KK10 : Keep h0 T10.heap [] := KK9.trans K10 all0
        have OL10 := OL9.keep K10 all0
        have g_b10_0 : n0 ≤ b10_0 := Nat.le_trans (Nat.le_trans (Nat.le_of_eq OL9.1.symm) OL9.2.1) u10_0
        have sz_b10_0 : h0.size ≤ b10_0 := Nat.le_trans KK9.1 u10_0
        have N10 := Fr.app N9 Nq10
        obtain ⟨cq11, kq11, q11a, q11b, q11c⟩ := isOf hZ rfl u10_1
        obtain ⟨_, _, ⟨T11, L11, k11, n11⟩, -, X11, ⟨Lc11, hQ11, l11, y11, z11⟩, st11⟩ := X10.virtualBack hx (y := mn11) (z := mn11) hown (mvT hZ (wd55 hw)) (mvT hZ (wd56 hw)) (notFace_of_selects (args := #[]) (mvT hZ (wd58 hw))) (mvT hZ (wd58 hw)) (mvT hZ (wd57 hw)) (by decide) (backOf (W := 0) (rm11_0 l Z a0 hw [] b10_0 w_EMPTY_MAP b9_0 T10.heap n0 OL10 u10_3 pr9 pr10 u10_2) hZ (wd59 hw) (wd37 hw) (by decide) (by decide)) q11a q11c (g := (mkF m 62 #[iv p1, iv p2, iv p3, iv p4, iv p5, iv (0 : Int32), rv b9_0, rv b10_0, .unset] [(.ref b10_0)])) rfl (by rw [hml]; rfl) (Steps.refl _) (argsL := []) (rest := []) (lenOf pd_7 rfl) rfl (by show 2 * 0 + _ ≤ _; exact Nat.le_of_eq rfl) (hb hby at_62) (fun _ _ => ⟨rfl, rfl, (by decide : 3 + 0 ≤ _), (by decide : 8 + 0 ≤ _)⟩)
        dsimp only [Pt.U, Pt.locs, Pt.cells, Pt.slots] at X11 l11 y11 z11 st11 hQ11
        subst l11 y11 z11
        obtain ⟨rfl, Nq11, ec11⟩ := hQ11
        have N11 := Fr.app N10 Nq11
        have fc13 := (u9_3.keep K10)
        obtain ⟨cq12, kq12, q12a, q12b, q12c⟩ := isOf hZ ec11 fc13
        obtain ⟨_, _, ⟨T12, L12, k12, n12⟩, -, X12, ⟨Lc12, hQ12, l12, y12, z12⟩, st12⟩ := X11.virtualBack hx (y := mn13) (z := mn13) hown (mvT hZ (wd72 hw)) (mvT hZ (wd73 hw)) (notFace_of_selects (args := #[]) (mvT hZ (wd75 hw))) (mvT hZ (wd75 hw)) (mvT hZ (wd74 hw)) (by decide) (backOf (W := 0) (rm13_0 l Z a0 hw [] b9_0 T10.heap n0 OL10 ) hZ (wd76 hw) (wd7 hw) (by decide) (by decide)) q12a q12c (g := (mkF m 92 #[iv p1, iv p2, iv p3, iv p4, iv p5, iv (0 : Int32), rv b9_0, rv b10_0, rv b9_0] [(.ref b9_0), (.ref b9_0)])) rfl (by rw [hml]; rfl) (Steps.refl _) (argsL := [(.ref b9_0)]) (rest := []) (lenOf pd_8 rfl) rfl (by show 2 * 0 + _ ≤ _; exact Nat.le_of_eq rfl) (hb hby at_92) (fun _ _ => ⟨rfl, ec11, (by decide : 3 + 0 ≤ _), (by decide : 8 + 0 ≤ _)⟩)
        dsimp only [Pt.U, Pt.locs, Pt.cells, Pt.slots] at X12 l12 y12 z12 st12 hQ12
        subst l12 y12 z12
        obtain ⟨rfl, Nq12, ec12⟩ := hQ12
        have N12 := Fr.app N11 Nq12
        obtain ⟨fs, hr, hrun, hended, hW, hsame⟩ := X12.leave (v := some (.int (1 : Int32))) (fun h => by rw [Bd.returns] at h; cases h)
        refine ⟨_, _, pre8 _ ?_, hrun, hended, _, _, rfl, ⟨rfl, N12⟩, ⟨_, rfl⟩, hW.wide, hW.no_new_pair _, hsame.mono (by decide) (by decide)⟩
        show SS p e below s₁ m 41 #[iv p1, iv p2, iv p3, iv p4, iv p5, iv (0 : Int32), .unset, .unset, .unset] [(.int y7), (.int y5), (.int y3), (.int (1 : Int32))] _
        refine st9 _ ?_
        show SS p e below T9 m 44 #[iv p1, iv p2, iv p3, iv p4, iv p5, iv (0 : Int32), .unset, .unset, .unset] [(.ref b9_0)] _
        refine XS.astore X9.here hx rfl (hb hby at_44) rfl rfl (l' := #[iv p1, iv p2, iv p3, iv p4, iv p5, iv (0 : Int32), rv b9_0, .unset, .unset]) rfl ?_
        refine XS.aload X9.here hx rfl (hb hby at_46) rfl rfl ?_
        show SS p e below T9 m 48 #[iv p1, iv p2, iv p3, iv p4, iv p5, iv (0 : Int32), rv b9_0, .unset, .unset] [(.ref b9_0)] _
        refine st10 _ ?_
        show SS p e below T10 m 51 #[iv p1, iv p2, iv p3, iv p4, iv p5, iv (0 : Int32), rv b9_0, .unset, .unset] [(.ref b10_0)] _
        refine XS.astore X10.here hx rfl (hb hby at_51) rfl rfl (l' := #[iv p1, iv p2, iv p3, iv p4, iv p5, iv (0 : Int32), rv b9_0, rv b10_0, .unset]) rfl ?_
        refine XS.aload X10.here hx rfl (hb hby at_53) rfl rfl ?_
        show SS p e below T10 m 55 #[iv p1, iv p2, iv p3, iv p4, iv p5, iv (0 : Int32), rv b9_0, rv b10_0, .unset] [(.ref b10_0)] _
        refine XS.ifnonnullYes X10.here hx rfl (pc0 := 55) (pc' := 60) rfl (hb hby at_55) rfl (by decide) (by decide) ?_
        show SS p e below T10 m 60 #[iv p1, iv p2, iv p3, iv p4, iv p5, iv (0 : Int32), rv b9_0, rv b10_0, .unset] [] _
        refine XS.aload X10.here hx rfl (hb hby at_60) rfl rfl ?_
        show SS p e below T10 m 62 #[iv p1, iv p2, iv p3, iv p4, iv p5, iv (0 : Int32), rv b9_0, rv b10_0, .unset] [(.ref b10_0)] _
        refine st11.trans ?_
        show SS p e below T11 m 65 #[iv p1, iv p2, iv p3, iv p4, iv p5, iv (0 : Int32), rv b9_0, rv b10_0, .unset] [(.ref b9_0)] _
        refine XS.astore X11.here hx rfl (hb hby at_65) rfl rfl (l' := #[iv p1, iv p2, iv p3, iv p4, iv p5, iv (0 : Int32), rv b9_0, rv b10_0, rv b9_0]) rfl ?_
        refine XS.aload X11.here hx rfl (hb hby at_67) rfl rfl ?_
        show SS p e below T11 m 69 #[iv p1, iv p2, iv p3, iv p4, iv p5, iv (0 : Int32), rv b9_0, rv b10_0, rv b9_0] [(.ref b9_0)] _
        refine XS.ifnonnullYes X11.here hx rfl (pc0 := 69) (pc' := 83) rfl (hb hby at_69) rfl (by decide) (by decide) ?_
        show SS p e below T11 m 83 #[iv p1, iv p2, iv p3, iv p4, iv p5, iv (0 : Int32), rv b9_0, rv b10_0, rv b9_0] [] _
        refine XS.aload X11.here hx rfl (hb hby at_83) rfl rfl ?_
        show SS p e below T11 m 85 #[iv p1, iv p2, iv p3, iv p4, iv p5, iv (0 : Int32), rv b9_0, rv b10_0, rv b9_0] [(.ref b9_0)] _
        refine XS.ifnullNo X11.here hx rfl (hb hby at_85) rfl ?_
        show SS p e below T11 m 88 #[iv p1, iv p2, iv p3, iv p4, iv p5, iv (0 : Int32), rv b9_0, rv b10_0, rv b9_0] [] _
        refine XS.aload X11.here hx rfl (hb hby at_88) rfl rfl ?_
        refine XS.aload X11.here hx rfl (hb hby at_90) rfl rfl ?_
        show SS p e below T11 m 92 #[iv p1, iv p2, iv p3, iv p4, iv p5, iv (0 : Int32), rv b9_0, rv b10_0, rv b9_0] [(.ref b9_0), (.ref b9_0)] _
        refine st12.trans ?_
        show SS p e below T12 m 95 #[iv p1, iv p2, iv p3, iv p4, iv p5, iv (0 : Int32), rv b9_0, rv b10_0, rv b9_0] [(.int (1 : Int32))] _
        refine XS.ifNo X12.here hx rfl (hb hby at_95) rfl ((if0 _ _).trans (feq (by decide : ¬ ((1 : Int32) = (0 : Int32)))).1) ?_
        show SS p e below T12 m 98 #[iv p1, iv p2, iv p3, iv p4, iv p5, iv (0 : Int32), rv b9_0, rv b10_0, rv b9_0] [] _
        refine XS.iconst X12.here hx rfl (hb hby at_98) ?_
        refine XS.goto X12.here hx rfl (pc0 := 99) (pc' := 103) rfl (hb hby at_99) (by decide) (by decide) ?_
        show SS p e below T12 m 103 #[iv p1, iv p2, iv p3, iv p4, iv p5, iv (0 : Int32), rv b9_0, rv b10_0, rv b9_0] [(.int (1 : Int32))] _
        exact retN X12 hx (t := .boolean) Bd.returns (by simp) (hb hby at_103) hr
      · obtain ⟨_, _, ⟨T14, L14, k14, n14⟩, -, X14, ⟨Lc14, hQ14, l14, y14, z14⟩, st14⟩ := Jvm.LawKit.callS X0 hx (y := mn1) hown (mvT hZ (wd1 hw)) (mvT hZ (wd2 hw)) (mvT hZ (wd3 hw)) (mvT hZ (wd4 hw)) (by decide) (backOf (W := 0) (rm1_2 l Z a0 hw [] y3 y5 y7 n_COMPACT_STRINGS h0 n0 OL0 pr11 pr12 hf8) hZ (wd4 hw) (wd3 hw) (by decide) (by decide)) (g := (mkF m 41 #[iv p1, iv p2, iv p3, iv p4, iv p5, iv (0 : Int32), .unset, .unset, .unset] [(.int y7), (.int y5), (.int y3), (.int (1 : Int32))])) rfl (by rw [hml]; rfl) (argsL := [(.int (1 : Int32)), (.int y3), (.int y5), (.int y7)]) (rest := []) (lenOf pd_2 rfl) rfl (by show 2 * 0 + _ ≤ _; exact Nat.le_of_eq rfl) (hb hby at_41) (fun _ _ => ⟨rfl, e0, (by decide : 0 + 2 ≤ _), (by decide : 0 + 5 ≤ _)⟩)
        dsimp only [Pt.U, Pt.locs, Pt.cells, Pt.slots] at X14 l14 y14 z14 st14 hQ14
        subst l14 y14 z14
        obtain ⟨b14_0, b14_1, kx14_0, rfl, Nq14, K14, u14_0, u14_1, u14_2, u14_3, u14_4, u14_5, u14_6⟩ := hQ14
        have KK14 : Keep h0 T14.heap [] := (Keep.refl h0 []).trans K14 all0
        have OL14 := OL0.keep K14 all0
        have g_b14_0 : n0 ≤ b14_0 := Nat.le_trans (Nat.le_trans (Nat.le_of_eq OL0.1.symm) OL0.2.1) u14_0
        have sz_b14_0 : h0.size ≤ b14_0 := Nat.le_trans (Keep.refl h0 []).1 u14_0
        have g_b14_1 : n0 ≤ b14_1 := Nat.le_trans (Nat.le_trans (Nat.le_of_eq OL0.1.symm) OL0.2.1) u14_1
        have sz_b14_1 : h0.size ≤ b14_1 := Nat.le_trans (Keep.refl h0 []).1 u14_1
        have N14 := Fr.app N0 Nq14
        obtain ⟨_, _, ⟨T15, L15, k15, n15⟩, -, X15, ⟨Lc15, hQ15, l15, y15, z15⟩, st15⟩ := Jvm.LawKit.callS X14 hx (y := mn8) hown (mvT hZ (wd35 hw)) (mvT hZ (wd36 hw)) (mvT hZ (wd37 hw)) (mvT hZ (wd38 hw)) (by decide) (backOf (W := 0) (rm8_0 l Z a0 hw [] b14_0 w_EMPTY_MAP T14.heap n0 OL14 pr8) hZ (wd38 hw) (wd37 hw) (by decide) (by decide)) (g := (mkF m 48 #[iv p1, iv p2, iv p3, iv p4, iv p5, iv (0 : Int32), rv b14_0, .unset, .unset] [(.ref b14_0)])) rfl (by rw [hml]; rfl) (argsL := [(.ref b14_0)]) (rest := []) (lenOf pd_5 rfl) rfl (by show 2 * 0 + _ ≤ _; exact Nat.le_of_eq rfl) (hb hby at_48) (fun _ _ => ⟨rfl, rfl, (by decide : 2 + 1 ≤ _), (by decide : 5 + 2 ≤ _)⟩)
        dsimp only [Pt.U, Pt.locs, Pt.cells, Pt.slots] at X15 l15 y15 z15 st15 hQ15
        subst l15 y15 z15
        obtain ⟨b15_0, rfl, Nq15, K15, u15_0, u15_1, u15_2, u15_3⟩ := hQ15
        have KK15 : Keep h0 T15.heap [] := KK14.trans K15 all0
        have OL15 := OL14.keep K15 all0
        have g_b15_0 : n0 ≤ b15_0 := Nat.le_trans (Nat.le_trans (Nat.le_of_eq OL14.1.symm) OL14.2.1) u15_0
        have sz_b15_0 : h0.size ≤ b15_0 := Nat.le_trans KK14.1 u15_0
        have N15 := Fr.app N14 Nq15
        obtain ⟨cq16, kq16, q16a, q16b, q16c⟩ := isOf hZ rfl u15_1
        obtain ⟨_, _, ⟨T16, L16, k16, n16⟩, -, X16, ⟨Lc16, hQ16, l16, y16, z16⟩, st16⟩ := X15.virtualBack hx (y := mn11) (z := mn11) hown (mvT hZ (wd55 hw)) (mvT hZ (wd56 hw)) (notFace_of_selects (args := #[]) (mvT hZ (wd58 hw))) (mvT hZ (wd58 hw)) (mvT hZ (wd57 hw)) (by decide) (backOf (W := 0) (rm11_0 l Z a0 hw [] b15_0 w_EMPTY_MAP b14_0 T15.heap n0 OL15 u15_3 pr9 pr10 u15_2) hZ (wd59 hw) (wd37 hw) (by decide) (by decide)) q16a q16c (g := (mkF m 62 #[iv p1, iv p2, iv p3, iv p4, iv p5, iv (0 : Int32), rv b14_0, rv b15_0, .unset] [(.ref b15_0)])) rfl (by rw [hml]; rfl) (Steps.refl _) (argsL := []) (rest := []) (lenOf pd_7 rfl) rfl (by show 2 * 0 + _ ≤ _; exact Nat.le_of_eq rfl) (hb hby at_62) (fun _ _ => ⟨rfl, rfl, (by decide : 3 + 0 ≤ _), (by decide : 7 + 0 ≤ _)⟩)
        dsimp only [Pt.U, Pt.locs, Pt.cells, Pt.slots] at X16 l16 y16 z16 st16 hQ16
        subst l16 y16 z16
        obtain ⟨rfl, Nq16, ec16⟩ := hQ16
        have N16 := Fr.app N15 Nq16
        have fc18 := (u14_3.keep K15)
        obtain ⟨cq17, kq17, q17a, q17b, q17c⟩ := isOf hZ ec16 fc18
        obtain ⟨_, _, ⟨T17, L17, k17, n17⟩, -, X17, ⟨Lc17, hQ17, l17, y17, z17⟩, st17⟩ := X16.virtualBack hx (y := mn13) (z := mn13) hown (mvT hZ (wd72 hw)) (mvT hZ (wd73 hw)) (notFace_of_selects (args := #[]) (mvT hZ (wd75 hw))) (mvT hZ (wd75 hw)) (mvT hZ (wd74 hw)) (by decide) (backOf (W := 0) (rm13_0 l Z a0 hw [] b14_0 T15.heap n0 OL15 ) hZ (wd76 hw) (wd7 hw) (by decide) (by decide)) q17a q17c (g := (mkF m 92 #[iv p1, iv p2, iv p3, iv p4, iv p5, iv (0 : Int32), rv b14_0, rv b15_0, rv b14_0] [(.ref b14_0), (.ref b14_0)])) rfl (by rw [hml]; rfl) (Steps.refl _) (argsL := [(.ref b14_0)]) (rest := []) (lenOf pd_8 rfl) rfl (by show 2 * 0 + _ ≤ _; exact Nat.le_of_eq rfl) (hb hby at_92) (fun _ _ => ⟨rfl, ec16, (by decide : 3 + 0 ≤ _), (by decide : 7 + 0 ≤ _)⟩)
        dsimp only [Pt.U, Pt.locs, Pt.cells, Pt.slots] at X17 l17 y17 z17 st17 hQ17
        subst l17 y17 z17
        obtain ⟨rfl, Nq17, ec17⟩ := hQ17
        have N17 := Fr.app N16 Nq17
        obtain ⟨fs, hr, hrun, hended, hW, hsame⟩ := X17.leave (v := some (.int (1 : Int32))) (fun h => by rw [Bd.returns] at h; cases h)
        refine ⟨_, _, pre8 _ ?_, hrun, hended, _, _, rfl, ⟨rfl, N17⟩, ⟨_, rfl⟩, hW.wide, hW.no_new_pair _, hsame.mono (by decide) (by decide)⟩
        show SS p e below s₁ m 41 #[iv p1, iv p2, iv p3, iv p4, iv p5, iv (0 : Int32), .unset, .unset, .unset] [(.int y7), (.int y5), (.int y3), (.int (1 : Int32))] _
        refine st14 _ ?_
        show SS p e below T14 m 44 #[iv p1, iv p2, iv p3, iv p4, iv p5, iv (0 : Int32), .unset, .unset, .unset] [(.ref b14_0)] _
        refine XS.astore X14.here hx rfl (hb hby at_44) rfl rfl (l' := #[iv p1, iv p2, iv p3, iv p4, iv p5, iv (0 : Int32), rv b14_0, .unset, .unset]) rfl ?_
        refine XS.aload X14.here hx rfl (hb hby at_46) rfl rfl ?_
        show SS p e below T14 m 48 #[iv p1, iv p2, iv p3, iv p4, iv p5, iv (0 : Int32), rv b14_0, .unset, .unset] [(.ref b14_0)] _
        refine st15 _ ?_
        show SS p e below T15 m 51 #[iv p1, iv p2, iv p3, iv p4, iv p5, iv (0 : Int32), rv b14_0, .unset, .unset] [(.ref b15_0)] _
        refine XS.astore X15.here hx rfl (hb hby at_51) rfl rfl (l' := #[iv p1, iv p2, iv p3, iv p4, iv p5, iv (0 : Int32), rv b14_0, rv b15_0, .unset]) rfl ?_
        refine XS.aload X15.here hx rfl (hb hby at_53) rfl rfl ?_
        show SS p e below T15 m 55 #[iv p1, iv p2, iv p3, iv p4, iv p5, iv (0 : Int32), rv b14_0, rv b15_0, .unset] [(.ref b15_0)] _
        refine XS.ifnonnullYes X15.here hx rfl (pc0 := 55) (pc' := 60) rfl (hb hby at_55) rfl (by decide) (by decide) ?_
        show SS p e below T15 m 60 #[iv p1, iv p2, iv p3, iv p4, iv p5, iv (0 : Int32), rv b14_0, rv b15_0, .unset] [] _
        refine XS.aload X15.here hx rfl (hb hby at_60) rfl rfl ?_
        show SS p e below T15 m 62 #[iv p1, iv p2, iv p3, iv p4, iv p5, iv (0 : Int32), rv b14_0, rv b15_0, .unset] [(.ref b15_0)] _
        refine st16.trans ?_
        show SS p e below T16 m 65 #[iv p1, iv p2, iv p3, iv p4, iv p5, iv (0 : Int32), rv b14_0, rv b15_0, .unset] [(.ref b14_0)] _
        refine XS.astore X16.here hx rfl (hb hby at_65) rfl rfl (l' := #[iv p1, iv p2, iv p3, iv p4, iv p5, iv (0 : Int32), rv b14_0, rv b15_0, rv b14_0]) rfl ?_
        refine XS.aload X16.here hx rfl (hb hby at_67) rfl rfl ?_
        show SS p e below T16 m 69 #[iv p1, iv p2, iv p3, iv p4, iv p5, iv (0 : Int32), rv b14_0, rv b15_0, rv b14_0] [(.ref b14_0)] _
        refine XS.ifnonnullYes X16.here hx rfl (pc0 := 69) (pc' := 83) rfl (hb hby at_69) rfl (by decide) (by decide) ?_
        show SS p e below T16 m 83 #[iv p1, iv p2, iv p3, iv p4, iv p5, iv (0 : Int32), rv b14_0, rv b15_0, rv b14_0] [] _
        refine XS.aload X16.here hx rfl (hb hby at_83) rfl rfl ?_
        show SS p e below T16 m 85 #[iv p1, iv p2, iv p3, iv p4, iv p5, iv (0 : Int32), rv b14_0, rv b15_0, rv b14_0] [(.ref b14_0)] _
        refine XS.ifnullNo X16.here hx rfl (hb hby at_85) rfl ?_
        show SS p e below T16 m 88 #[iv p1, iv p2, iv p3, iv p4, iv p5, iv (0 : Int32), rv b14_0, rv b15_0, rv b14_0] [] _
        refine XS.aload X16.here hx rfl (hb hby at_88) rfl rfl ?_
        refine XS.aload X16.here hx rfl (hb hby at_90) rfl rfl ?_
        show SS p e below T16 m 92 #[iv p1, iv p2, iv p3, iv p4, iv p5, iv (0 : Int32), rv b14_0, rv b15_0, rv b14_0] [(.ref b14_0), (.ref b14_0)] _
        refine st17.trans ?_
        show SS p e below T17 m 95 #[iv p1, iv p2, iv p3, iv p4, iv p5, iv (0 : Int32), rv b14_0, rv b15_0, rv b14_0] [(.int (1 : Int32))] _
        refine XS.ifNo X17.here hx rfl (hb hby at_95) rfl ((if0 _ _).trans (feq (by decide : ¬ ((1 : Int32) = (0 : Int32)))).1) ?_
        show SS p e below T17 m 98 #[iv p1, iv p2, iv p3, iv p4, iv p5, iv (0 : Int32), rv b14_0, rv b15_0, rv b14_0] [] _
        refine XS.iconst X17.here hx rfl (hb hby at_98) ?_
        refine XS.goto X17.here hx rfl (pc0 := 99) (pc' := 103) rfl (hb hby at_99) (by decide) (by decide) ?_
        show SS p e below T17 m 103 #[iv p1, iv p2, iv p3, iv p4, iv p5, iv (0 : Int32), rv b14_0, rv b15_0, rv b14_0] [(.int (1 : Int32))] _
        exact retN X17 hx (t := .boolean) Bd.returns (by simp) (hb hby at_103) hr
    · have pre19 : ∀ t, SS p e below s₁ m 41 #[iv p1, iv p2, iv p3, iv p4, iv p5, iv (0 : Int32), .unset, .unset, .unset] [(.int y7), (.int y5), (.int y3), (.int (2 : Int32))] t → Steps p.tables e below (s₁.setTop (entryFrame m #[(.int p1), (.int p2), (.int p3), (.int p4), (.int p5)] maxLocals)) t := by
        intro t kt
        refine pre2 _ ?_
        show SS p e below s₁ m 24 #[iv p1, iv p2, iv p3, iv p4, iv p5, iv (0 : Int32), .unset, .unset, .unset] [(.int (3 : Int32)), (.int p2)] _
        refine XS.iand X0.here hx rfl (hb hby at_24) rfl ?_
        show SS p e below s₁ m 25 #[iv p1, iv p2, iv p3, iv p4, iv p5, iv (0 : Int32), .unset, .unset, .unset] [(.int (p2 &&& (3 : Int32)))] _
        rw [hf2]
        show SS p e below s₁ m 25 #[iv p1, iv p2, iv p3, iv p4, iv p5, iv (0 : Int32), .unset, .unset, .unset] [(.int (2 : Int32))] _
        refine XS.iloadN X0.here hx rfl (hb hby at_25) rfl ?_
        refine X0.ldcInt hx hown (mvT hZ (wd0 hw)) (g := (mkF m 26 #[iv p1, iv p2, iv p3, iv p4, iv p5, iv (0 : Int32), .unset, .unset, .unset] [(.int p3), (.int (2 : Int32))])) rfl (hb hby at_26) _ ?_
        show SS p e below s₁ m 28 #[iv p1, iv p2, iv p3, iv p4, iv p5, iv (0 : Int32), .unset, .unset, .unset] [(.int (65535 : Int32)), (.int p3), (.int (2 : Int32))] _
        refine XS.iand X0.here hx rfl (hb hby at_28) rfl ?_
        show SS p e below s₁ m 29 #[iv p1, iv p2, iv p3, iv p4, iv p5, iv (0 : Int32), .unset, .unset, .unset] [(.int (p3 &&& (65535 : Int32))), (.int (2 : Int32))] _
        rw [pr2]
        show SS p e below s₁ m 29 #[iv p1, iv p2, iv p3, iv p4, iv p5, iv (0 : Int32), .unset, .unset, .unset] [(.int y2), (.int (2 : Int32))] _
        refine XS.i2c X0.here hx rfl (hb hby at_29) rfl ?_
        show SS p e below s₁ m 30 #[iv p1, iv p2, iv p3, iv p4, iv p5, iv (0 : Int32), .unset, .unset, .unset] [(.int (y2.toUInt32.toUInt16.toUInt32.toInt32)), (.int (2 : Int32))] _
        rw [pr3]
        show SS p e below s₁ m 30 #[iv p1, iv p2, iv p3, iv p4, iv p5, iv (0 : Int32), .unset, .unset, .unset] [(.int y3), (.int (2 : Int32))] _
        refine XS.iloadN X0.here hx rfl (hb hby at_30) rfl ?_
        refine X0.ldcInt hx hown (mvT hZ (wd0 hw)) (g := (mkF m 31 #[iv p1, iv p2, iv p3, iv p4, iv p5, iv (0 : Int32), .unset, .unset, .unset] [(.int p4), (.int y3), (.int (2 : Int32))])) rfl (hb hby at_31) _ ?_
        show SS p e below s₁ m 33 #[iv p1, iv p2, iv p3, iv p4, iv p5, iv (0 : Int32), .unset, .unset, .unset] [(.int (65535 : Int32)), (.int p4), (.int y3), (.int (2 : Int32))] _
        refine XS.iand X0.here hx rfl (hb hby at_33) rfl ?_
        show SS p e below s₁ m 34 #[iv p1, iv p2, iv p3, iv p4, iv p5, iv (0 : Int32), .unset, .unset, .unset] [(.int (p4 &&& (65535 : Int32))), (.int y3), (.int (2 : Int32))] _
        rw [pr4]
        show SS p e below s₁ m 34 #[iv p1, iv p2, iv p3, iv p4, iv p5, iv (0 : Int32), .unset, .unset, .unset] [(.int y4), (.int y3), (.int (2 : Int32))] _
        refine XS.i2c X0.here hx rfl (hb hby at_34) rfl ?_
        show SS p e below s₁ m 35 #[iv p1, iv p2, iv p3, iv p4, iv p5, iv (0 : Int32), .unset, .unset, .unset] [(.int (y4.toUInt32.toUInt16.toUInt32.toInt32)), (.int y3), (.int (2 : Int32))] _
        rw [pr5]
        show SS p e below s₁ m 35 #[iv p1, iv p2, iv p3, iv p4, iv p5, iv (0 : Int32), .unset, .unset, .unset] [(.int y5), (.int y3), (.int (2 : Int32))] _
        refine XS.iload X0.here hx rfl (hb hby at_35) rfl ?_
        refine X0.ldcInt hx hown (mvT hZ (wd0 hw)) (g := (mkF m 37 #[iv p1, iv p2, iv p3, iv p4, iv p5, iv (0 : Int32), .unset, .unset, .unset] [(.int p5), (.int y5), (.int y3), (.int (2 : Int32))])) rfl (hb hby at_37) _ ?_
        show SS p e below s₁ m 39 #[iv p1, iv p2, iv p3, iv p4, iv p5, iv (0 : Int32), .unset, .unset, .unset] [(.int (65535 : Int32)), (.int p5), (.int y5), (.int y3), (.int (2 : Int32))] _
        refine XS.iand X0.here hx rfl (hb hby at_39) rfl ?_
        show SS p e below s₁ m 40 #[iv p1, iv p2, iv p3, iv p4, iv p5, iv (0 : Int32), .unset, .unset, .unset] [(.int (p5 &&& (65535 : Int32))), (.int y5), (.int y3), (.int (2 : Int32))] _
        rw [pr6]
        show SS p e below s₁ m 40 #[iv p1, iv p2, iv p3, iv p4, iv p5, iv (0 : Int32), .unset, .unset, .unset] [(.int y6), (.int y5), (.int y3), (.int (2 : Int32))] _
        refine XS.i2c X0.here hx rfl (hb hby at_40) rfl ?_
        show SS p e below s₁ m 41 #[iv p1, iv p2, iv p3, iv p4, iv p5, iv (0 : Int32), .unset, .unset, .unset] [(.int (y6.toUInt32.toUInt16.toUInt32.toInt32)), (.int y5), (.int y3), (.int (2 : Int32))] _
        rw [pr7]
        exact kt
      by_cases hf19 : (255 : Int32) < (nar .char y3)
      · obtain ⟨_, _, ⟨T20, L20, k20, n20⟩, -, X20, ⟨Lc20, hQ20, l20, y20, z20⟩, st20⟩ := Jvm.LawKit.callS X0 hx (y := mn1) hown (mvT hZ (wd1 hw)) (mvT hZ (wd2 hw)) (mvT hZ (wd3 hw)) (mvT hZ (wd4 hw)) (by decide) (backOf (W := 0) (rm1_3 l Z a0 hw [] y3 y5 y7 n_COMPACT_STRINGS h0 n0 OL0 pr11 pr12 hf19 pr13 pr14 pr15 (own_rechar hf19)) hZ (wd4 hw) (wd3 hw) (by decide) (by decide)) (g := (mkF m 41 #[iv p1, iv p2, iv p3, iv p4, iv p5, iv (0 : Int32), .unset, .unset, .unset] [(.int y7), (.int y5), (.int y3), (.int (2 : Int32))])) rfl (by rw [hml]; rfl) (argsL := [(.int (2 : Int32)), (.int y3), (.int y5), (.int y7)]) (rest := []) (lenOf pd_2 rfl) rfl (by show 2 * 0 + _ ≤ _; exact Nat.le_of_eq rfl) (hb hby at_41) (fun _ _ => ⟨rfl, e0, (by decide : 0 + 4 ≤ _), (by decide : 0 + 12 ≤ _)⟩)
        dsimp only [Pt.U, Pt.locs, Pt.cells, Pt.slots] at X20 l20 y20 z20 st20 hQ20
        subst l20 y20 z20
        obtain ⟨b20_0, b20_1, kx20_0, rfl, Nq20, K20, u20_0, u20_1, u20_2, u20_3, u20_4, u20_5, u20_6⟩ := hQ20
        have KK20 : Keep h0 T20.heap [] := (Keep.refl h0 []).trans K20 all0
        have OL20 := OL0.keep K20 all0
        have g_b20_0 : n0 ≤ b20_0 := Nat.le_trans (Nat.le_trans (Nat.le_of_eq OL0.1.symm) OL0.2.1) u20_0
        have sz_b20_0 : h0.size ≤ b20_0 := Nat.le_trans (Keep.refl h0 []).1 u20_0
        have g_b20_1 : n0 ≤ b20_1 := Nat.le_trans (Nat.le_trans (Nat.le_of_eq OL0.1.symm) OL0.2.1) u20_1
        have sz_b20_1 : h0.size ≤ b20_1 := Nat.le_trans (Keep.refl h0 []).1 u20_1
        have N20 := Fr.app N0 Nq20
        obtain ⟨_, _, ⟨T21, L21, k21, n21⟩, -, X21, ⟨Lc21, hQ21, l21, y21, z21⟩, st21⟩ := Jvm.LawKit.callS X20 hx (y := mn8) hown (mvT hZ (wd35 hw)) (mvT hZ (wd36 hw)) (mvT hZ (wd37 hw)) (mvT hZ (wd38 hw)) (by decide) (backOf (W := 0) (rm8_0 l Z a0 hw [] b20_0 w_EMPTY_MAP T20.heap n0 OL20 pr8) hZ (wd38 hw) (wd37 hw) (by decide) (by decide)) (g := (mkF m 48 #[iv p1, iv p2, iv p3, iv p4, iv p5, iv (0 : Int32), rv b20_0, .unset, .unset] [(.ref b20_0)])) rfl (by rw [hml]; rfl) (argsL := [(.ref b20_0)]) (rest := []) (lenOf pd_5 rfl) rfl (by show 2 * 0 + _ ≤ _; exact Nat.le_of_eq rfl) (hb hby at_48) (fun _ _ => ⟨rfl, rfl, (by decide : 4 + 1 ≤ _), (by decide : 12 + 2 ≤ _)⟩)
        dsimp only [Pt.U, Pt.locs, Pt.cells, Pt.slots] at X21 l21 y21 z21 st21 hQ21
        subst l21 y21 z21
        obtain ⟨b21_0, rfl, Nq21, K21, u21_0, u21_1, u21_2, u21_3⟩ := hQ21
        have KK21 : Keep h0 T21.heap [] := KK20.trans K21 all0
        have OL21 := OL20.keep K21 all0
        have g_b21_0 : n0 ≤ b21_0 := Nat.le_trans (Nat.le_trans (Nat.le_of_eq OL20.1.symm) OL20.2.1) u21_0
        have sz_b21_0 : h0.size ≤ b21_0 := Nat.le_trans KK20.1 u21_0
        have N21 := Fr.app N20 Nq21
        obtain ⟨cq22, kq22, q22a, q22b, q22c⟩ := isOf hZ rfl u21_1
        obtain ⟨_, _, ⟨T22, L22, k22, n22⟩, -, X22, ⟨Lc22, hQ22, l22, y22, z22⟩, st22⟩ := X21.virtualBack hx (y := mn11) (z := mn11) hown (mvT hZ (wd55 hw)) (mvT hZ (wd56 hw)) (notFace_of_selects (args := #[]) (mvT hZ (wd58 hw))) (mvT hZ (wd58 hw)) (mvT hZ (wd57 hw)) (by decide) (backOf (W := 0) (rm11_0 l Z a0 hw [] b21_0 w_EMPTY_MAP b20_0 T21.heap n0 OL21 u21_3 pr9 pr10 u21_2) hZ (wd59 hw) (wd37 hw) (by decide) (by decide)) q22a q22c (g := (mkF m 62 #[iv p1, iv p2, iv p3, iv p4, iv p5, iv (0 : Int32), rv b20_0, rv b21_0, .unset] [(.ref b21_0)])) rfl (by rw [hml]; rfl) (Steps.refl _) (argsL := []) (rest := []) (lenOf pd_7 rfl) rfl (by show 2 * 0 + _ ≤ _; exact Nat.le_of_eq rfl) (hb hby at_62) (fun _ _ => ⟨rfl, rfl, (by decide : 5 + 0 ≤ _), (by decide : 14 + 0 ≤ _)⟩)
        dsimp only [Pt.U, Pt.locs, Pt.cells, Pt.slots] at X22 l22 y22 z22 st22 hQ22
        subst l22 y22 z22
        obtain ⟨rfl, Nq22, ec22⟩ := hQ22
        have N22 := Fr.app N21 Nq22
        have fc24 := (u20_3.keep K21)
        obtain ⟨cq23, kq23, q23a, q23b, q23c⟩ := isOf hZ ec22 fc24
        obtain ⟨_, _, ⟨T23, L23, k23, n23⟩, -, X23, ⟨Lc23, hQ23, l23, y23, z23⟩, st23⟩ := X22.virtualBack hx (y := mn13) (z := mn13) hown (mvT hZ (wd72 hw)) (mvT hZ (wd73 hw)) (notFace_of_selects (args := #[]) (mvT hZ (wd75 hw))) (mvT hZ (wd75 hw)) (mvT hZ (wd74 hw)) (by decide) (backOf (W := 0) (rm13_0 l Z a0 hw [] b20_0 T21.heap n0 OL21 ) hZ (wd76 hw) (wd7 hw) (by decide) (by decide)) q23a q23c (g := (mkF m 92 #[iv p1, iv p2, iv p3, iv p4, iv p5, iv (0 : Int32), rv b20_0, rv b21_0, rv b20_0] [(.ref b20_0), (.ref b20_0)])) rfl (by rw [hml]; rfl) (Steps.refl _) (argsL := [(.ref b20_0)]) (rest := []) (lenOf pd_8 rfl) rfl (by show 2 * 0 + _ ≤ _; exact Nat.le_of_eq rfl) (hb hby at_92) (fun _ _ => ⟨rfl, ec22, (by decide : 5 + 0 ≤ _), (by decide : 14 + 0 ≤ _)⟩)
        dsimp only [Pt.U, Pt.locs, Pt.cells, Pt.slots] at X23 l23 y23 z23 st23 hQ23
        subst l23 y23 z23
        obtain ⟨rfl, Nq23, ec23⟩ := hQ23
        have N23 := Fr.app N22 Nq23
        obtain ⟨fs, hr, hrun, hended, hW, hsame⟩ := X23.leave (v := some (.int (1 : Int32))) (fun h => by rw [Bd.returns] at h; cases h)
        refine ⟨_, _, pre19 _ ?_, hrun, hended, _, _, rfl, ⟨rfl, N23⟩, ⟨_, rfl⟩, hW.wide, hW.no_new_pair _, hsame.mono (by decide) (by decide)⟩
        show SS p e below s₁ m 41 #[iv p1, iv p2, iv p3, iv p4, iv p5, iv (0 : Int32), .unset, .unset, .unset] [(.int y7), (.int y5), (.int y3), (.int (2 : Int32))] _
        refine st20 _ ?_
        show SS p e below T20 m 44 #[iv p1, iv p2, iv p3, iv p4, iv p5, iv (0 : Int32), .unset, .unset, .unset] [(.ref b20_0)] _
        refine XS.astore X20.here hx rfl (hb hby at_44) rfl rfl (l' := #[iv p1, iv p2, iv p3, iv p4, iv p5, iv (0 : Int32), rv b20_0, .unset, .unset]) rfl ?_
        refine XS.aload X20.here hx rfl (hb hby at_46) rfl rfl ?_
        show SS p e below T20 m 48 #[iv p1, iv p2, iv p3, iv p4, iv p5, iv (0 : Int32), rv b20_0, .unset, .unset] [(.ref b20_0)] _
        refine st21 _ ?_
        show SS p e below T21 m 51 #[iv p1, iv p2, iv p3, iv p4, iv p5, iv (0 : Int32), rv b20_0, .unset, .unset] [(.ref b21_0)] _
        refine XS.astore X21.here hx rfl (hb hby at_51) rfl rfl (l' := #[iv p1, iv p2, iv p3, iv p4, iv p5, iv (0 : Int32), rv b20_0, rv b21_0, .unset]) rfl ?_
        refine XS.aload X21.here hx rfl (hb hby at_53) rfl rfl ?_
        show SS p e below T21 m 55 #[iv p1, iv p2, iv p3, iv p4, iv p5, iv (0 : Int32), rv b20_0, rv b21_0, .unset] [(.ref b21_0)] _
        refine XS.ifnonnullYes X21.here hx rfl (pc0 := 55) (pc' := 60) rfl (hb hby at_55) rfl (by decide) (by decide) ?_
        show SS p e below T21 m 60 #[iv p1, iv p2, iv p3, iv p4, iv p5, iv (0 : Int32), rv b20_0, rv b21_0, .unset] [] _
        refine XS.aload X21.here hx rfl (hb hby at_60) rfl rfl ?_
        show SS p e below T21 m 62 #[iv p1, iv p2, iv p3, iv p4, iv p5, iv (0 : Int32), rv b20_0, rv b21_0, .unset] [(.ref b21_0)] _
        refine st22.trans ?_
        show SS p e below T22 m 65 #[iv p1, iv p2, iv p3, iv p4, iv p5, iv (0 : Int32), rv b20_0, rv b21_0, .unset] [(.ref b20_0)] _
        refine XS.astore X22.here hx rfl (hb hby at_65) rfl rfl (l' := #[iv p1, iv p2, iv p3, iv p4, iv p5, iv (0 : Int32), rv b20_0, rv b21_0, rv b20_0]) rfl ?_
        refine XS.aload X22.here hx rfl (hb hby at_67) rfl rfl ?_
        show SS p e below T22 m 69 #[iv p1, iv p2, iv p3, iv p4, iv p5, iv (0 : Int32), rv b20_0, rv b21_0, rv b20_0] [(.ref b20_0)] _
        refine XS.ifnonnullYes X22.here hx rfl (pc0 := 69) (pc' := 83) rfl (hb hby at_69) rfl (by decide) (by decide) ?_
        show SS p e below T22 m 83 #[iv p1, iv p2, iv p3, iv p4, iv p5, iv (0 : Int32), rv b20_0, rv b21_0, rv b20_0] [] _
        refine XS.aload X22.here hx rfl (hb hby at_83) rfl rfl ?_
        show SS p e below T22 m 85 #[iv p1, iv p2, iv p3, iv p4, iv p5, iv (0 : Int32), rv b20_0, rv b21_0, rv b20_0] [(.ref b20_0)] _
        refine XS.ifnullNo X22.here hx rfl (hb hby at_85) rfl ?_
        show SS p e below T22 m 88 #[iv p1, iv p2, iv p3, iv p4, iv p5, iv (0 : Int32), rv b20_0, rv b21_0, rv b20_0] [] _
        refine XS.aload X22.here hx rfl (hb hby at_88) rfl rfl ?_
        refine XS.aload X22.here hx rfl (hb hby at_90) rfl rfl ?_
        show SS p e below T22 m 92 #[iv p1, iv p2, iv p3, iv p4, iv p5, iv (0 : Int32), rv b20_0, rv b21_0, rv b20_0] [(.ref b20_0), (.ref b20_0)] _
        refine st23.trans ?_
        show SS p e below T23 m 95 #[iv p1, iv p2, iv p3, iv p4, iv p5, iv (0 : Int32), rv b20_0, rv b21_0, rv b20_0] [(.int (1 : Int32))] _
        refine XS.ifNo X23.here hx rfl (hb hby at_95) rfl ((if0 _ _).trans (feq (by decide : ¬ ((1 : Int32) = (0 : Int32)))).1) ?_
        show SS p e below T23 m 98 #[iv p1, iv p2, iv p3, iv p4, iv p5, iv (0 : Int32), rv b20_0, rv b21_0, rv b20_0] [] _
        refine XS.iconst X23.here hx rfl (hb hby at_98) ?_
        refine XS.goto X23.here hx rfl (pc0 := 99) (pc' := 103) rfl (hb hby at_99) (by decide) (by decide) ?_
        show SS p e below T23 m 103 #[iv p1, iv p2, iv p3, iv p4, iv p5, iv (0 : Int32), rv b20_0, rv b21_0, rv b20_0] [(.int (1 : Int32))] _
        exact retN X23 hx (t := .boolean) Bd.returns (by simp) (hb hby at_103) hr
      · by_cases hf25 : (255 : Int32) < (nar .char y5)
        · obtain ⟨_, _, ⟨T26, L26, k26, n26⟩, -, X26, ⟨Lc26, hQ26, l26, y26, z26⟩, st26⟩ := Jvm.LawKit.callS X0 hx (y := mn1) hown (mvT hZ (wd1 hw)) (mvT hZ (wd2 hw)) (mvT hZ (wd3 hw)) (mvT hZ (wd4 hw)) (by decide) (backOf (W := 0) (rm1_4 l Z a0 hw [] y3 y5 y7 n_COMPACT_STRINGS h0 n0 OL0 pr11 pr12 hf19 hf25 pr13 pr14 pr15 (own_rechar hf25)) hZ (wd4 hw) (wd3 hw) (by decide) (by decide)) (g := (mkF m 41 #[iv p1, iv p2, iv p3, iv p4, iv p5, iv (0 : Int32), .unset, .unset, .unset] [(.int y7), (.int y5), (.int y3), (.int (2 : Int32))])) rfl (by rw [hml]; rfl) (argsL := [(.int (2 : Int32)), (.int y3), (.int y5), (.int y7)]) (rest := []) (lenOf pd_2 rfl) rfl (by show 2 * 0 + _ ≤ _; exact Nat.le_of_eq rfl) (hb hby at_41) (fun _ _ => ⟨rfl, e0, (by decide : 0 + 4 ≤ _), (by decide : 0 + 12 ≤ _)⟩)
          dsimp only [Pt.U, Pt.locs, Pt.cells, Pt.slots] at X26 l26 y26 z26 st26 hQ26
          subst l26 y26 z26
          obtain ⟨b26_0, b26_1, kx26_0, rfl, Nq26, K26, u26_0, u26_1, u26_2, u26_3, u26_4, u26_5, u26_6⟩ := hQ26
          have KK26 : Keep h0 T26.heap [] := (Keep.refl h0 []).trans K26 all0
          have OL26 := OL0.keep K26 all0
          have g_b26_0 : n0 ≤ b26_0 := Nat.le_trans (Nat.le_trans (Nat.le_of_eq OL0.1.symm) OL0.2.1) u26_0
          have sz_b26_0 : h0.size ≤ b26_0 := Nat.le_trans (Keep.refl h0 []).1 u26_0
          have g_b26_1 : n0 ≤ b26_1 := Nat.le_trans (Nat.le_trans (Nat.le_of_eq OL0.1.symm) OL0.2.1) u26_1
          have sz_b26_1 : h0.size ≤ b26_1 := Nat.le_trans (Keep.refl h0 []).1 u26_1
          have N26 := Fr.app N0 Nq26
          obtain ⟨_, _, ⟨T27, L27, k27, n27⟩, -, X27, ⟨Lc27, hQ27, l27, y27, z27⟩, st27⟩ := Jvm.LawKit.callS X26 hx (y := mn8) hown (mvT hZ (wd35 hw)) (mvT hZ (wd36 hw)) (mvT hZ (wd37 hw)) (mvT hZ (wd38 hw)) (by decide) (backOf (W := 0) (rm8_0 l Z a0 hw [] b26_0 w_EMPTY_MAP T26.heap n0 OL26 pr8) hZ (wd38 hw) (wd37 hw) (by decide) (by decide)) (g := (mkF m 48 #[iv p1, iv p2, iv p3, iv p4, iv p5, iv (0 : Int32), rv b26_0, .unset, .unset] [(.ref b26_0)])) rfl (by rw [hml]; rfl) (argsL := [(.ref b26_0)]) (rest := []) (lenOf pd_5 rfl) rfl (by show 2 * 0 + _ ≤ _; exact Nat.le_of_eq rfl) (hb hby at_48) (fun _ _ => ⟨rfl, rfl, (by decide : 4 + 1 ≤ _), (by decide : 12 + 2 ≤ _)⟩)
          dsimp only [Pt.U, Pt.locs, Pt.cells, Pt.slots] at X27 l27 y27 z27 st27 hQ27
          subst l27 y27 z27
          obtain ⟨b27_0, rfl, Nq27, K27, u27_0, u27_1, u27_2, u27_3⟩ := hQ27
          have KK27 : Keep h0 T27.heap [] := KK26.trans K27 all0
          have OL27 := OL26.keep K27 all0
          have g_b27_0 : n0 ≤ b27_0 := Nat.le_trans (Nat.le_trans (Nat.le_of_eq OL26.1.symm) OL26.2.1) u27_0
          have sz_b27_0 : h0.size ≤ b27_0 := Nat.le_trans KK26.1 u27_0
          have N27 := Fr.app N26 Nq27
          obtain ⟨cq28, kq28, q28a, q28b, q28c⟩ := isOf hZ rfl u27_1
          obtain ⟨_, _, ⟨T28, L28, k28, n28⟩, -, X28, ⟨Lc28, hQ28, l28, y28, z28⟩, st28⟩ := X27.virtualBack hx (y := mn11) (z := mn11) hown (mvT hZ (wd55 hw)) (mvT hZ (wd56 hw)) (notFace_of_selects (args := #[]) (mvT hZ (wd58 hw))) (mvT hZ (wd58 hw)) (mvT hZ (wd57 hw)) (by decide) (backOf (W := 0) (rm11_0 l Z a0 hw [] b27_0 w_EMPTY_MAP b26_0 T27.heap n0 OL27 u27_3 pr9 pr10 u27_2) hZ (wd59 hw) (wd37 hw) (by decide) (by decide)) q28a q28c (g := (mkF m 62 #[iv p1, iv p2, iv p3, iv p4, iv p5, iv (0 : Int32), rv b26_0, rv b27_0, .unset] [(.ref b27_0)])) rfl (by rw [hml]; rfl) (Steps.refl _) (argsL := []) (rest := []) (lenOf pd_7 rfl) rfl (by show 2 * 0 + _ ≤ _; exact Nat.le_of_eq rfl) (hb hby at_62) (fun _ _ => ⟨rfl, rfl, (by decide : 5 + 0 ≤ _), (by decide : 14 + 0 ≤ _)⟩)
          dsimp only [Pt.U, Pt.locs, Pt.cells, Pt.slots] at X28 l28 y28 z28 st28 hQ28
          subst l28 y28 z28
          obtain ⟨rfl, Nq28, ec28⟩ := hQ28
          have N28 := Fr.app N27 Nq28
          have fc30 := (u26_3.keep K27)
          obtain ⟨cq29, kq29, q29a, q29b, q29c⟩ := isOf hZ ec28 fc30
          obtain ⟨_, _, ⟨T29, L29, k29, n29⟩, -, X29, ⟨Lc29, hQ29, l29, y29, z29⟩, st29⟩ := X28.virtualBack hx (y := mn13) (z := mn13) hown (mvT hZ (wd72 hw)) (mvT hZ (wd73 hw)) (notFace_of_selects (args := #[]) (mvT hZ (wd75 hw))) (mvT hZ (wd75 hw)) (mvT hZ (wd74 hw)) (by decide) (backOf (W := 0) (rm13_0 l Z a0 hw [] b26_0 T27.heap n0 OL27 ) hZ (wd76 hw) (wd7 hw) (by decide) (by decide)) q29a q29c (g := (mkF m 92 #[iv p1, iv p2, iv p3, iv p4, iv p5, iv (0 : Int32), rv b26_0, rv b27_0, rv b26_0] [(.ref b26_0), (.ref b26_0)])) rfl (by rw [hml]; rfl) (Steps.refl _) (argsL := [(.ref b26_0)]) (rest := []) (lenOf pd_8 rfl) rfl (by show 2 * 0 + _ ≤ _; exact Nat.le_of_eq rfl) (hb hby at_92) (fun _ _ => ⟨rfl, ec28, (by decide : 5 + 0 ≤ _), (by decide : 14 + 0 ≤ _)⟩)
          dsimp only [Pt.U, Pt.locs, Pt.cells, Pt.slots] at X29 l29 y29 z29 st29 hQ29
          subst l29 y29 z29
          obtain ⟨rfl, Nq29, ec29⟩ := hQ29
          have N29 := Fr.app N28 Nq29
          obtain ⟨fs, hr, hrun, hended, hW, hsame⟩ := X29.leave (v := some (.int (1 : Int32))) (fun h => by rw [Bd.returns] at h; cases h)
          refine ⟨_, _, pre19 _ ?_, hrun, hended, _, _, rfl, ⟨rfl, N29⟩, ⟨_, rfl⟩, hW.wide, hW.no_new_pair _, hsame.mono (by decide) (by decide)⟩
          show SS p e below s₁ m 41 #[iv p1, iv p2, iv p3, iv p4, iv p5, iv (0 : Int32), .unset, .unset, .unset] [(.int y7), (.int y5), (.int y3), (.int (2 : Int32))] _
          refine st26 _ ?_
          show SS p e below T26 m 44 #[iv p1, iv p2, iv p3, iv p4, iv p5, iv (0 : Int32), .unset, .unset, .unset] [(.ref b26_0)] _
          refine XS.astore X26.here hx rfl (hb hby at_44) rfl rfl (l' := #[iv p1, iv p2, iv p3, iv p4, iv p5, iv (0 : Int32), rv b26_0, .unset, .unset]) rfl ?_
          refine XS.aload X26.here hx rfl (hb hby at_46) rfl rfl ?_
          show SS p e below T26 m 48 #[iv p1, iv p2, iv p3, iv p4, iv p5, iv (0 : Int32), rv b26_0, .unset, .unset] [(.ref b26_0)] _
          refine st27 _ ?_
          show SS p e below T27 m 51 #[iv p1, iv p2, iv p3, iv p4, iv p5, iv (0 : Int32), rv b26_0, .unset, .unset] [(.ref b27_0)] _
          refine XS.astore X27.here hx rfl (hb hby at_51) rfl rfl (l' := #[iv p1, iv p2, iv p3, iv p4, iv p5, iv (0 : Int32), rv b26_0, rv b27_0, .unset]) rfl ?_
          refine XS.aload X27.here hx rfl (hb hby at_53) rfl rfl ?_
          show SS p e below T27 m 55 #[iv p1, iv p2, iv p3, iv p4, iv p5, iv (0 : Int32), rv b26_0, rv b27_0, .unset] [(.ref b27_0)] _
          refine XS.ifnonnullYes X27.here hx rfl (pc0 := 55) (pc' := 60) rfl (hb hby at_55) rfl (by decide) (by decide) ?_
          show SS p e below T27 m 60 #[iv p1, iv p2, iv p3, iv p4, iv p5, iv (0 : Int32), rv b26_0, rv b27_0, .unset] [] _
          refine XS.aload X27.here hx rfl (hb hby at_60) rfl rfl ?_
          show SS p e below T27 m 62 #[iv p1, iv p2, iv p3, iv p4, iv p5, iv (0 : Int32), rv b26_0, rv b27_0, .unset] [(.ref b27_0)] _
          refine st28.trans ?_
          show SS p e below T28 m 65 #[iv p1, iv p2, iv p3, iv p4, iv p5, iv (0 : Int32), rv b26_0, rv b27_0, .unset] [(.ref b26_0)] _
          refine XS.astore X28.here hx rfl (hb hby at_65) rfl rfl (l' := #[iv p1, iv p2, iv p3, iv p4, iv p5, iv (0 : Int32), rv b26_0, rv b27_0, rv b26_0]) rfl ?_
          refine XS.aload X28.here hx rfl (hb hby at_67) rfl rfl ?_
          show SS p e below T28 m 69 #[iv p1, iv p2, iv p3, iv p4, iv p5, iv (0 : Int32), rv b26_0, rv b27_0, rv b26_0] [(.ref b26_0)] _
          refine XS.ifnonnullYes X28.here hx rfl (pc0 := 69) (pc' := 83) rfl (hb hby at_69) rfl (by decide) (by decide) ?_
          show SS p e below T28 m 83 #[iv p1, iv p2, iv p3, iv p4, iv p5, iv (0 : Int32), rv b26_0, rv b27_0, rv b26_0] [] _
          refine XS.aload X28.here hx rfl (hb hby at_83) rfl rfl ?_
          show SS p e below T28 m 85 #[iv p1, iv p2, iv p3, iv p4, iv p5, iv (0 : Int32), rv b26_0, rv b27_0, rv b26_0] [(.ref b26_0)] _
          refine XS.ifnullNo X28.here hx rfl (hb hby at_85) rfl ?_
          show SS p e below T28 m 88 #[iv p1, iv p2, iv p3, iv p4, iv p5, iv (0 : Int32), rv b26_0, rv b27_0, rv b26_0] [] _
          refine XS.aload X28.here hx rfl (hb hby at_88) rfl rfl ?_
          refine XS.aload X28.here hx rfl (hb hby at_90) rfl rfl ?_
          show SS p e below T28 m 92 #[iv p1, iv p2, iv p3, iv p4, iv p5, iv (0 : Int32), rv b26_0, rv b27_0, rv b26_0] [(.ref b26_0), (.ref b26_0)] _
          refine st29.trans ?_
          show SS p e below T29 m 95 #[iv p1, iv p2, iv p3, iv p4, iv p5, iv (0 : Int32), rv b26_0, rv b27_0, rv b26_0] [(.int (1 : Int32))] _
          refine XS.ifNo X29.here hx rfl (hb hby at_95) rfl ((if0 _ _).trans (feq (by decide : ¬ ((1 : Int32) = (0 : Int32)))).1) ?_
          show SS p e below T29 m 98 #[iv p1, iv p2, iv p3, iv p4, iv p5, iv (0 : Int32), rv b26_0, rv b27_0, rv b26_0] [] _
          refine XS.iconst X29.here hx rfl (hb hby at_98) ?_
          refine XS.goto X29.here hx rfl (pc0 := 99) (pc' := 103) rfl (hb hby at_99) (by decide) (by decide) ?_
          show SS p e below T29 m 103 #[iv p1, iv p2, iv p3, iv p4, iv p5, iv (0 : Int32), rv b26_0, rv b27_0, rv b26_0] [(.int (1 : Int32))] _
          exact retN X29 hx (t := .boolean) Bd.returns (by simp) (hb hby at_103) hr
        · obtain ⟨_, _, ⟨T31, L31, k31, n31⟩, -, X31, ⟨Lc31, hQ31, l31, y31, z31⟩, st31⟩ := Jvm.LawKit.callS X0 hx (y := mn1) hown (mvT hZ (wd1 hw)) (mvT hZ (wd2 hw)) (mvT hZ (wd3 hw)) (mvT hZ (wd4 hw)) (by decide) (backOf (W := 0) (rm1_5 l Z a0 hw [] y3 y5 y7 n_COMPACT_STRINGS h0 n0 OL0 pr11 pr12 hf19 hf25) hZ (wd4 hw) (wd3 hw) (by decide) (by decide)) (g := (mkF m 41 #[iv p1, iv p2, iv p3, iv p4, iv p5, iv (0 : Int32), .unset, .unset, .unset] [(.int y7), (.int y5), (.int y3), (.int (2 : Int32))])) rfl (by rw [hml]; rfl) (argsL := [(.int (2 : Int32)), (.int y3), (.int y5), (.int y7)]) (rest := []) (lenOf pd_2 rfl) rfl (by show 2 * 0 + _ ≤ _; exact Nat.le_of_eq rfl) (hb hby at_41) (fun _ _ => ⟨rfl, e0, (by decide : 0 + 3 ≤ _), (by decide : 0 + 8 ≤ _)⟩)
          dsimp only [Pt.U, Pt.locs, Pt.cells, Pt.slots] at X31 l31 y31 z31 st31 hQ31
          subst l31 y31 z31
          obtain ⟨b31_0, b31_1, kx31_0, rfl, Nq31, K31, u31_0, u31_1, u31_2, u31_3, u31_4, u31_5, u31_6⟩ := hQ31
          have KK31 : Keep h0 T31.heap [] := (Keep.refl h0 []).trans K31 all0
          have OL31 := OL0.keep K31 all0
          have g_b31_0 : n0 ≤ b31_0 := Nat.le_trans (Nat.le_trans (Nat.le_of_eq OL0.1.symm) OL0.2.1) u31_0
          have sz_b31_0 : h0.size ≤ b31_0 := Nat.le_trans (Keep.refl h0 []).1 u31_0
          have g_b31_1 : n0 ≤ b31_1 := Nat.le_trans (Nat.le_trans (Nat.le_of_eq OL0.1.symm) OL0.2.1) u31_1
          have sz_b31_1 : h0.size ≤ b31_1 := Nat.le_trans (Keep.refl h0 []).1 u31_1
          have N31 := Fr.app N0 Nq31
          obtain ⟨_, _, ⟨T32, L32, k32, n32⟩, -, X32, ⟨Lc32, hQ32, l32, y32, z32⟩, st32⟩ := Jvm.LawKit.callS X31 hx (y := mn8) hown (mvT hZ (wd35 hw)) (mvT hZ (wd36 hw)) (mvT hZ (wd37 hw)) (mvT hZ (wd38 hw)) (by decide) (backOf (W := 0) (rm8_0 l Z a0 hw [] b31_0 w_EMPTY_MAP T31.heap n0 OL31 pr8) hZ (wd38 hw) (wd37 hw) (by decide) (by decide)) (g := (mkF m 48 #[iv p1, iv p2, iv p3, iv p4, iv p5, iv (0 : Int32), rv b31_0, .unset, .unset] [(.ref b31_0)])) rfl (by rw [hml]; rfl) (argsL := [(.ref b31_0)]) (rest := []) (lenOf pd_5 rfl) rfl (by show 2 * 0 + _ ≤ _; exact Nat.le_of_eq rfl) (hb hby at_48) (fun _ _ => ⟨rfl, rfl, (by decide : 3 + 1 ≤ _), (by decide : 8 + 2 ≤ _)⟩)
          dsimp only [Pt.U, Pt.locs, Pt.cells, Pt.slots] at X32 l32 y32 z32 st32 hQ32
          subst l32 y32 z32
          obtain ⟨b32_0, rfl, Nq32, K32, u32_0, u32_1, u32_2, u32_3⟩ := hQ32
          have KK32 : Keep h0 T32.heap [] := KK31.trans K32 all0
          have OL32 := OL31.keep K32 all0
          have g_b32_0 : n0 ≤ b32_0 := Nat.le_trans (Nat.le_trans (Nat.le_of_eq OL31.1.symm) OL31.2.1) u32_0
          have sz_b32_0 : h0.size ≤ b32_0 := Nat.le_trans KK31.1 u32_0
          have N32 := Fr.app N31 Nq32
          obtain ⟨cq33, kq33, q33a, q33b, q33c⟩ := isOf hZ rfl u32_1
          obtain ⟨_, _, ⟨T33, L33, k33, n33⟩, -, X33, ⟨Lc33, hQ33, l33, y33, z33⟩, st33⟩ := X32.virtualBack hx (y := mn11) (z := mn11) hown (mvT hZ (wd55 hw)) (mvT hZ (wd56 hw)) (notFace_of_selects (args := #[]) (mvT hZ (wd58 hw))) (mvT hZ (wd58 hw)) (mvT hZ (wd57 hw)) (by decide) (backOf (W := 0) (rm11_0 l Z a0 hw [] b32_0 w_EMPTY_MAP b31_0 T32.heap n0 OL32 u32_3 pr9 pr10 u32_2) hZ (wd59 hw) (wd37 hw) (by decide) (by decide)) q33a q33c (g := (mkF m 62 #[iv p1, iv p2, iv p3, iv p4, iv p5, iv (0 : Int32), rv b31_0, rv b32_0, .unset] [(.ref b32_0)])) rfl (by rw [hml]; rfl) (Steps.refl _) (argsL := []) (rest := []) (lenOf pd_7 rfl) rfl (by show 2 * 0 + _ ≤ _; exact Nat.le_of_eq rfl) (hb hby at_62) (fun _ _ => ⟨rfl, rfl, (by decide : 4 + 0 ≤ _), (by decide : 10 + 0 ≤ _)⟩)
          dsimp only [Pt.U, Pt.locs, Pt.cells, Pt.slots] at X33 l33 y33 z33 st33 hQ33
          subst l33 y33 z33
          obtain ⟨rfl, Nq33, ec33⟩ := hQ33
          have N33 := Fr.app N32 Nq33
          have fc35 := (u31_3.keep K32)
          obtain ⟨cq34, kq34, q34a, q34b, q34c⟩ := isOf hZ ec33 fc35
          obtain ⟨_, _, ⟨T34, L34, k34, n34⟩, -, X34, ⟨Lc34, hQ34, l34, y34, z34⟩, st34⟩ := X33.virtualBack hx (y := mn13) (z := mn13) hown (mvT hZ (wd72 hw)) (mvT hZ (wd73 hw)) (notFace_of_selects (args := #[]) (mvT hZ (wd75 hw))) (mvT hZ (wd75 hw)) (mvT hZ (wd74 hw)) (by decide) (backOf (W := 0) (rm13_0 l Z a0 hw [] b31_0 T32.heap n0 OL32 ) hZ (wd76 hw) (wd7 hw) (by decide) (by decide)) q34a q34c (g := (mkF m 92 #[iv p1, iv p2, iv p3, iv p4, iv p5, iv (0 : Int32), rv b31_0, rv b32_0, rv b31_0] [(.ref b31_0), (.ref b31_0)])) rfl (by rw [hml]; rfl) (Steps.refl _) (argsL := [(.ref b31_0)]) (rest := []) (lenOf pd_8 rfl) rfl (by show 2 * 0 + _ ≤ _; exact Nat.le_of_eq rfl) (hb hby at_92) (fun _ _ => ⟨rfl, ec33, (by decide : 4 + 0 ≤ _), (by decide : 10 + 0 ≤ _)⟩)
          dsimp only [Pt.U, Pt.locs, Pt.cells, Pt.slots] at X34 l34 y34 z34 st34 hQ34
          subst l34 y34 z34
          obtain ⟨rfl, Nq34, ec34⟩ := hQ34
          have N34 := Fr.app N33 Nq34
          obtain ⟨fs, hr, hrun, hended, hW, hsame⟩ := X34.leave (v := some (.int (1 : Int32))) (fun h => by rw [Bd.returns] at h; cases h)
          refine ⟨_, _, pre19 _ ?_, hrun, hended, _, _, rfl, ⟨rfl, N34⟩, ⟨_, rfl⟩, hW.wide, hW.no_new_pair _, hsame.mono (by decide) (by decide)⟩
          show SS p e below s₁ m 41 #[iv p1, iv p2, iv p3, iv p4, iv p5, iv (0 : Int32), .unset, .unset, .unset] [(.int y7), (.int y5), (.int y3), (.int (2 : Int32))] _
          refine st31 _ ?_
          show SS p e below T31 m 44 #[iv p1, iv p2, iv p3, iv p4, iv p5, iv (0 : Int32), .unset, .unset, .unset] [(.ref b31_0)] _
          refine XS.astore X31.here hx rfl (hb hby at_44) rfl rfl (l' := #[iv p1, iv p2, iv p3, iv p4, iv p5, iv (0 : Int32), rv b31_0, .unset, .unset]) rfl ?_
          refine XS.aload X31.here hx rfl (hb hby at_46) rfl rfl ?_
          show SS p e below T31 m 48 #[iv p1, iv p2, iv p3, iv p4, iv p5, iv (0 : Int32), rv b31_0, .unset, .unset] [(.ref b31_0)] _
          refine st32 _ ?_
          show SS p e below T32 m 51 #[iv p1, iv p2, iv p3, iv p4, iv p5, iv (0 : Int32), rv b31_0, .unset, .unset] [(.ref b32_0)] _
          refine XS.astore X32.here hx rfl (hb hby at_51) rfl rfl (l' := #[iv p1, iv p2, iv p3, iv p4, iv p5, iv (0 : Int32), rv b31_0, rv b32_0, .unset]) rfl ?_
          refine XS.aload X32.here hx rfl (hb hby at_53) rfl rfl ?_
          show SS p e below T32 m 55 #[iv p1, iv p2, iv p3, iv p4, iv p5, iv (0 : Int32), rv b31_0, rv b32_0, .unset] [(.ref b32_0)] _
          refine XS.ifnonnullYes X32.here hx rfl (pc0 := 55) (pc' := 60) rfl (hb hby at_55) rfl (by decide) (by decide) ?_
          show SS p e below T32 m 60 #[iv p1, iv p2, iv p3, iv p4, iv p5, iv (0 : Int32), rv b31_0, rv b32_0, .unset] [] _
          refine XS.aload X32.here hx rfl (hb hby at_60) rfl rfl ?_
          show SS p e below T32 m 62 #[iv p1, iv p2, iv p3, iv p4, iv p5, iv (0 : Int32), rv b31_0, rv b32_0, .unset] [(.ref b32_0)] _
          refine st33.trans ?_
          show SS p e below T33 m 65 #[iv p1, iv p2, iv p3, iv p4, iv p5, iv (0 : Int32), rv b31_0, rv b32_0, .unset] [(.ref b31_0)] _
          refine XS.astore X33.here hx rfl (hb hby at_65) rfl rfl (l' := #[iv p1, iv p2, iv p3, iv p4, iv p5, iv (0 : Int32), rv b31_0, rv b32_0, rv b31_0]) rfl ?_
          refine XS.aload X33.here hx rfl (hb hby at_67) rfl rfl ?_
          show SS p e below T33 m 69 #[iv p1, iv p2, iv p3, iv p4, iv p5, iv (0 : Int32), rv b31_0, rv b32_0, rv b31_0] [(.ref b31_0)] _
          refine XS.ifnonnullYes X33.here hx rfl (pc0 := 69) (pc' := 83) rfl (hb hby at_69) rfl (by decide) (by decide) ?_
          show SS p e below T33 m 83 #[iv p1, iv p2, iv p3, iv p4, iv p5, iv (0 : Int32), rv b31_0, rv b32_0, rv b31_0] [] _
          refine XS.aload X33.here hx rfl (hb hby at_83) rfl rfl ?_
          show SS p e below T33 m 85 #[iv p1, iv p2, iv p3, iv p4, iv p5, iv (0 : Int32), rv b31_0, rv b32_0, rv b31_0] [(.ref b31_0)] _
          refine XS.ifnullNo X33.here hx rfl (hb hby at_85) rfl ?_
          show SS p e below T33 m 88 #[iv p1, iv p2, iv p3, iv p4, iv p5, iv (0 : Int32), rv b31_0, rv b32_0, rv b31_0] [] _
          refine XS.aload X33.here hx rfl (hb hby at_88) rfl rfl ?_
          refine XS.aload X33.here hx rfl (hb hby at_90) rfl rfl ?_
          show SS p e below T33 m 92 #[iv p1, iv p2, iv p3, iv p4, iv p5, iv (0 : Int32), rv b31_0, rv b32_0, rv b31_0] [(.ref b31_0), (.ref b31_0)] _
          refine st34.trans ?_
          show SS p e below T34 m 95 #[iv p1, iv p2, iv p3, iv p4, iv p5, iv (0 : Int32), rv b31_0, rv b32_0, rv b31_0] [(.int (1 : Int32))] _
          refine XS.ifNo X34.here hx rfl (hb hby at_95) rfl ((if0 _ _).trans (feq (by decide : ¬ ((1 : Int32) = (0 : Int32)))).1) ?_
          show SS p e below T34 m 98 #[iv p1, iv p2, iv p3, iv p4, iv p5, iv (0 : Int32), rv b31_0, rv b32_0, rv b31_0] [] _
          refine XS.iconst X34.here hx rfl (hb hby at_98) ?_
          refine XS.goto X34.here hx rfl (pc0 := 99) (pc' := 103) rfl (hb hby at_99) (by decide) (by decide) ?_
          show SS p e below T34 m 103 #[iv p1, iv p2, iv p3, iv p4, iv p5, iv (0 : Int32), rv b31_0, rv b32_0, rv b31_0] [(.int (1 : Int32))] _
          exact retN X34 hx (t := .boolean) Bd.returns (by simp) (hb hby at_103) hr
    · have pre36 : ∀ t, SS p e below s₁ m 41 #[iv p1, iv p2, iv p3, iv p4, iv p5, iv (0 : Int32), .unset, .unset, .unset] [(.int y7), (.int y5), (.int y3), (.int (3 : Int32))] t → Steps p.tables e below (s₁.setTop (entryFrame m #[(.int p1), (.int p2), (.int p3), (.int p4), (.int p5)] maxLocals)) t := by
        intro t kt
        refine pre2 _ ?_
        show SS p e below s₁ m 24 #[iv p1, iv p2, iv p3, iv p4, iv p5, iv (0 : Int32), .unset, .unset, .unset] [(.int (3 : Int32)), (.int p2)] _
        refine XS.iand X0.here hx rfl (hb hby at_24) rfl ?_
        show SS p e below s₁ m 25 #[iv p1, iv p2, iv p3, iv p4, iv p5, iv (0 : Int32), .unset, .unset, .unset] [(.int (p2 &&& (3 : Int32)))] _
        rw [hf2]
        show SS p e below s₁ m 25 #[iv p1, iv p2, iv p3, iv p4, iv p5, iv (0 : Int32), .unset, .unset, .unset] [(.int (3 : Int32))] _
        refine XS.iloadN X0.here hx rfl (hb hby at_25) rfl ?_
        refine X0.ldcInt hx hown (mvT hZ (wd0 hw)) (g := (mkF m 26 #[iv p1, iv p2, iv p3, iv p4, iv p5, iv (0 : Int32), .unset, .unset, .unset] [(.int p3), (.int (3 : Int32))])) rfl (hb hby at_26) _ ?_
        show SS p e below s₁ m 28 #[iv p1, iv p2, iv p3, iv p4, iv p5, iv (0 : Int32), .unset, .unset, .unset] [(.int (65535 : Int32)), (.int p3), (.int (3 : Int32))] _
        refine XS.iand X0.here hx rfl (hb hby at_28) rfl ?_
        show SS p e below s₁ m 29 #[iv p1, iv p2, iv p3, iv p4, iv p5, iv (0 : Int32), .unset, .unset, .unset] [(.int (p3 &&& (65535 : Int32))), (.int (3 : Int32))] _
        rw [pr2]
        show SS p e below s₁ m 29 #[iv p1, iv p2, iv p3, iv p4, iv p5, iv (0 : Int32), .unset, .unset, .unset] [(.int y2), (.int (3 : Int32))] _
        refine XS.i2c X0.here hx rfl (hb hby at_29) rfl ?_
        show SS p e below s₁ m 30 #[iv p1, iv p2, iv p3, iv p4, iv p5, iv (0 : Int32), .unset, .unset, .unset] [(.int (y2.toUInt32.toUInt16.toUInt32.toInt32)), (.int (3 : Int32))] _
        rw [pr3]
        show SS p e below s₁ m 30 #[iv p1, iv p2, iv p3, iv p4, iv p5, iv (0 : Int32), .unset, .unset, .unset] [(.int y3), (.int (3 : Int32))] _
        refine XS.iloadN X0.here hx rfl (hb hby at_30) rfl ?_
        refine X0.ldcInt hx hown (mvT hZ (wd0 hw)) (g := (mkF m 31 #[iv p1, iv p2, iv p3, iv p4, iv p5, iv (0 : Int32), .unset, .unset, .unset] [(.int p4), (.int y3), (.int (3 : Int32))])) rfl (hb hby at_31) _ ?_
        show SS p e below s₁ m 33 #[iv p1, iv p2, iv p3, iv p4, iv p5, iv (0 : Int32), .unset, .unset, .unset] [(.int (65535 : Int32)), (.int p4), (.int y3), (.int (3 : Int32))] _
        refine XS.iand X0.here hx rfl (hb hby at_33) rfl ?_
        show SS p e below s₁ m 34 #[iv p1, iv p2, iv p3, iv p4, iv p5, iv (0 : Int32), .unset, .unset, .unset] [(.int (p4 &&& (65535 : Int32))), (.int y3), (.int (3 : Int32))] _
        rw [pr4]
        show SS p e below s₁ m 34 #[iv p1, iv p2, iv p3, iv p4, iv p5, iv (0 : Int32), .unset, .unset, .unset] [(.int y4), (.int y3), (.int (3 : Int32))] _
        refine XS.i2c X0.here hx rfl (hb hby at_34) rfl ?_
        show SS p e below s₁ m 35 #[iv p1, iv p2, iv p3, iv p4, iv p5, iv (0 : Int32), .unset, .unset, .unset] [(.int (y4.toUInt32.toUInt16.toUInt32.toInt32)), (.int y3), (.int (3 : Int32))] _
        rw [pr5]
        show SS p e below s₁ m 35 #[iv p1, iv p2, iv p3, iv p4, iv p5, iv (0 : Int32), .unset, .unset, .unset] [(.int y5), (.int y3), (.int (3 : Int32))] _
        refine XS.iload X0.here hx rfl (hb hby at_35) rfl ?_
        refine X0.ldcInt hx hown (mvT hZ (wd0 hw)) (g := (mkF m 37 #[iv p1, iv p2, iv p3, iv p4, iv p5, iv (0 : Int32), .unset, .unset, .unset] [(.int p5), (.int y5), (.int y3), (.int (3 : Int32))])) rfl (hb hby at_37) _ ?_
        show SS p e below s₁ m 39 #[iv p1, iv p2, iv p3, iv p4, iv p5, iv (0 : Int32), .unset, .unset, .unset] [(.int (65535 : Int32)), (.int p5), (.int y5), (.int y3), (.int (3 : Int32))] _
        refine XS.iand X0.here hx rfl (hb hby at_39) rfl ?_
        show SS p e below s₁ m 40 #[iv p1, iv p2, iv p3, iv p4, iv p5, iv (0 : Int32), .unset, .unset, .unset] [(.int (p5 &&& (65535 : Int32))), (.int y5), (.int y3), (.int (3 : Int32))] _
        rw [pr6]
        show SS p e below s₁ m 40 #[iv p1, iv p2, iv p3, iv p4, iv p5, iv (0 : Int32), .unset, .unset, .unset] [(.int y6), (.int y5), (.int y3), (.int (3 : Int32))] _
        refine XS.i2c X0.here hx rfl (hb hby at_40) rfl ?_
        show SS p e below s₁ m 41 #[iv p1, iv p2, iv p3, iv p4, iv p5, iv (0 : Int32), .unset, .unset, .unset] [(.int (y6.toUInt32.toUInt16.toUInt32.toInt32)), (.int y5), (.int y3), (.int (3 : Int32))] _
        rw [pr7]
        exact kt
      by_cases hf36 : (255 : Int32) < (nar .char y3)
      · obtain ⟨_, _, ⟨T37, L37, k37, n37⟩, -, X37, ⟨Lc37, hQ37, l37, y37, z37⟩, st37⟩ := Jvm.LawKit.callS X0 hx (y := mn1) hown (mvT hZ (wd1 hw)) (mvT hZ (wd2 hw)) (mvT hZ (wd3 hw)) (mvT hZ (wd4 hw)) (by decide) (backOf (W := 0) (rm1_6 l Z a0 hw [] y3 y5 y7 n_COMPACT_STRINGS h0 n0 OL0 pr11 pr12 hf36 pr13 pr14 pr15 (own_rechar hf36)) hZ (wd4 hw) (wd3 hw) (by decide) (by decide)) (g := (mkF m 41 #[iv p1, iv p2, iv p3, iv p4, iv p5, iv (0 : Int32), .unset, .unset, .unset] [(.int y7), (.int y5), (.int y3), (.int (3 : Int32))])) rfl (by rw [hml]; rfl) (argsL := [(.int (3 : Int32)), (.int y3), (.int y5), (.int y7)]) (rest := []) (lenOf pd_2 rfl) rfl (by show 2 * 0 + _ ≤ _; exact Nat.le_of_eq rfl) (hb hby at_41) (fun _ _ => ⟨rfl, e0, (by decide : 0 + 4 ≤ _), (by decide : 0 + 16 ≤ _)⟩)
        dsimp only [Pt.U, Pt.locs, Pt.cells, Pt.slots] at X37 l37 y37 z37 st37 hQ37
        subst l37 y37 z37
        obtain ⟨b37_0, b37_1, kx37_0, rfl, Nq37, K37, u37_0, u37_1, u37_2, u37_3, u37_4, u37_5, u37_6⟩ := hQ37
        have KK37 : Keep h0 T37.heap [] := (Keep.refl h0 []).trans K37 all0
        have OL37 := OL0.keep K37 all0
        have g_b37_0 : n0 ≤ b37_0 := Nat.le_trans (Nat.le_trans (Nat.le_of_eq OL0.1.symm) OL0.2.1) u37_0
        have sz_b37_0 : h0.size ≤ b37_0 := Nat.le_trans (Keep.refl h0 []).1 u37_0
        have g_b37_1 : n0 ≤ b37_1 := Nat.le_trans (Nat.le_trans (Nat.le_of_eq OL0.1.symm) OL0.2.1) u37_1
        have sz_b37_1 : h0.size ≤ b37_1 := Nat.le_trans (Keep.refl h0 []).1 u37_1
        have N37 := Fr.app N0 Nq37
        obtain ⟨_, _, ⟨T38, L38, k38, n38⟩, -, X38, ⟨Lc38, hQ38, l38, y38, z38⟩, st38⟩ := Jvm.LawKit.callS X37 hx (y := mn8) hown (mvT hZ (wd35 hw)) (mvT hZ (wd36 hw)) (mvT hZ (wd37 hw)) (mvT hZ (wd38 hw)) (by decide) (backOf (W := 0) (rm8_0 l Z a0 hw [] b37_0 w_EMPTY_MAP T37.heap n0 OL37 pr8) hZ (wd38 hw) (wd37 hw) (by decide) (by decide)) (g := (mkF m 48 #[iv p1, iv p2, iv p3, iv p4, iv p5, iv (0 : Int32), rv b37_0, .unset, .unset] [(.ref b37_0)])) rfl (by rw [hml]; rfl) (argsL := [(.ref b37_0)]) (rest := []) (lenOf pd_5 rfl) rfl (by show 2 * 0 + _ ≤ _; exact Nat.le_of_eq rfl) (hb hby at_48) (fun _ _ => ⟨rfl, rfl, (by decide : 4 + 1 ≤ _), (by decide : 16 + 2 ≤ _)⟩)
        dsimp only [Pt.U, Pt.locs, Pt.cells, Pt.slots] at X38 l38 y38 z38 st38 hQ38
        subst l38 y38 z38
        obtain ⟨b38_0, rfl, Nq38, K38, u38_0, u38_1, u38_2, u38_3⟩ := hQ38
        have KK38 : Keep h0 T38.heap [] := KK37.trans K38 all0
        have OL38 := OL37.keep K38 all0
        have g_b38_0 : n0 ≤ b38_0 := Nat.le_trans (Nat.le_trans (Nat.le_of_eq OL37.1.symm) OL37.2.1) u38_0
        have sz_b38_0 : h0.size ≤ b38_0 := Nat.le_trans KK37.1 u38_0
        have N38 := Fr.app N37 Nq38
        obtain ⟨cq39, kq39, q39a, q39b, q39c⟩ := isOf hZ rfl u38_1
        obtain ⟨_, _, ⟨T39, L39, k39, n39⟩, -, X39, ⟨Lc39, hQ39, l39, y39, z39⟩, st39⟩ := X38.virtualBack hx (y := mn11) (z := mn11) hown (mvT hZ (wd55 hw)) (mvT hZ (wd56 hw)) (notFace_of_selects (args := #[]) (mvT hZ (wd58 hw))) (mvT hZ (wd58 hw)) (mvT hZ (wd57 hw)) (by decide) (backOf (W := 0) (rm11_0 l Z a0 hw [] b38_0 w_EMPTY_MAP b37_0 T38.heap n0 OL38 u38_3 pr9 pr10 u38_2) hZ (wd59 hw) (wd37 hw) (by decide) (by decide)) q39a q39c (g := (mkF m 62 #[iv p1, iv p2, iv p3, iv p4, iv p5, iv (0 : Int32), rv b37_0, rv b38_0, .unset] [(.ref b38_0)])) rfl (by rw [hml]; rfl) (Steps.refl _) (argsL := []) (rest := []) (lenOf pd_7 rfl) rfl (by show 2 * 0 + _ ≤ _; exact Nat.le_of_eq rfl) (hb hby at_62) (fun _ _ => ⟨rfl, rfl, (by decide : 5 + 0 ≤ _), (by decide : 18 + 0 ≤ _)⟩)
        dsimp only [Pt.U, Pt.locs, Pt.cells, Pt.slots] at X39 l39 y39 z39 st39 hQ39
        subst l39 y39 z39
        obtain ⟨rfl, Nq39, ec39⟩ := hQ39
        have N39 := Fr.app N38 Nq39
        have fc41 := (u37_3.keep K38)
        obtain ⟨cq40, kq40, q40a, q40b, q40c⟩ := isOf hZ ec39 fc41
        obtain ⟨_, _, ⟨T40, L40, k40, n40⟩, -, X40, ⟨Lc40, hQ40, l40, y40, z40⟩, st40⟩ := X39.virtualBack hx (y := mn13) (z := mn13) hown (mvT hZ (wd72 hw)) (mvT hZ (wd73 hw)) (notFace_of_selects (args := #[]) (mvT hZ (wd75 hw))) (mvT hZ (wd75 hw)) (mvT hZ (wd74 hw)) (by decide) (backOf (W := 0) (rm13_0 l Z a0 hw [] b37_0 T38.heap n0 OL38 ) hZ (wd76 hw) (wd7 hw) (by decide) (by decide)) q40a q40c (g := (mkF m 92 #[iv p1, iv p2, iv p3, iv p4, iv p5, iv (0 : Int32), rv b37_0, rv b38_0, rv b37_0] [(.ref b37_0), (.ref b37_0)])) rfl (by rw [hml]; rfl) (Steps.refl _) (argsL := [(.ref b37_0)]) (rest := []) (lenOf pd_8 rfl) rfl (by show 2 * 0 + _ ≤ _; exact Nat.le_of_eq rfl) (hb hby at_92) (fun _ _ => ⟨rfl, ec39, (by decide : 5 + 0 ≤ _), (by decide : 18 + 0 ≤ _)⟩)
        dsimp only [Pt.U, Pt.locs, Pt.cells, Pt.slots] at X40 l40 y40 z40 st40 hQ40
        subst l40 y40 z40
        obtain ⟨rfl, Nq40, ec40⟩ := hQ40
        have N40 := Fr.app N39 Nq40
        obtain ⟨fs, hr, hrun, hended, hW, hsame⟩ := X40.leave (v := some (.int (1 : Int32))) (fun h => by rw [Bd.returns] at h; cases h)
        refine ⟨_, _, pre36 _ ?_, hrun, hended, _, _, rfl, ⟨rfl, N40⟩, ⟨_, rfl⟩, hW.wide, hW.no_new_pair _, hsame.mono (by decide) (by decide)⟩
        show SS p e below s₁ m 41 #[iv p1, iv p2, iv p3, iv p4, iv p5, iv (0 : Int32), .unset, .unset, .unset] [(.int y7), (.int y5), (.int y3), (.int (3 : Int32))] _
        refine st37 _ ?_
        show SS p e below T37 m 44 #[iv p1, iv p2, iv p3, iv p4, iv p5, iv (0 : Int32), .unset, .unset, .unset] [(.ref b37_0)] _
        refine XS.astore X37.here hx rfl (hb hby at_44) rfl rfl (l' := #[iv p1, iv p2, iv p3, iv p4, iv p5, iv (0 : Int32), rv b37_0, .unset, .unset]) rfl ?_
        refine XS.aload X37.here hx rfl (hb hby at_46) rfl rfl ?_
        show SS p e below T37 m 48 #[iv p1, iv p2, iv p3, iv p4, iv p5, iv (0 : Int32), rv b37_0, .unset, .unset] [(.ref b37_0)] _
        refine st38 _ ?_
        show SS p e below T38 m 51 #[iv p1, iv p2, iv p3, iv p4, iv p5, iv (0 : Int32), rv b37_0, .unset, .unset] [(.ref b38_0)] _
        refine XS.astore X38.here hx rfl (hb hby at_51) rfl rfl (l' := #[iv p1, iv p2, iv p3, iv p4, iv p5, iv (0 : Int32), rv b37_0, rv b38_0, .unset]) rfl ?_
        refine XS.aload X38.here hx rfl (hb hby at_53) rfl rfl ?_
        show SS p e below T38 m 55 #[iv p1, iv p2, iv p3, iv p4, iv p5, iv (0 : Int32), rv b37_0, rv b38_0, .unset] [(.ref b38_0)] _
        refine XS.ifnonnullYes X38.here hx rfl (pc0 := 55) (pc' := 60) rfl (hb hby at_55) rfl (by decide) (by decide) ?_
        show SS p e below T38 m 60 #[iv p1, iv p2, iv p3, iv p4, iv p5, iv (0 : Int32), rv b37_0, rv b38_0, .unset] [] _
        refine XS.aload X38.here hx rfl (hb hby at_60) rfl rfl ?_
        show SS p e below T38 m 62 #[iv p1, iv p2, iv p3, iv p4, iv p5, iv (0 : Int32), rv b37_0, rv b38_0, .unset] [(.ref b38_0)] _
        refine st39.trans ?_
        show SS p e below T39 m 65 #[iv p1, iv p2, iv p3, iv p4, iv p5, iv (0 : Int32), rv b37_0, rv b38_0, .unset] [(.ref b37_0)] _
        refine XS.astore X39.here hx rfl (hb hby at_65) rfl rfl (l' := #[iv p1, iv p2, iv p3, iv p4, iv p5, iv (0 : Int32), rv b37_0, rv b38_0, rv b37_0]) rfl ?_
        refine XS.aload X39.here hx rfl (hb hby at_67) rfl rfl ?_
        show SS p e below T39 m 69 #[iv p1, iv p2, iv p3, iv p4, iv p5, iv (0 : Int32), rv b37_0, rv b38_0, rv b37_0] [(.ref b37_0)] _
        refine XS.ifnonnullYes X39.here hx rfl (pc0 := 69) (pc' := 83) rfl (hb hby at_69) rfl (by decide) (by decide) ?_
        show SS p e below T39 m 83 #[iv p1, iv p2, iv p3, iv p4, iv p5, iv (0 : Int32), rv b37_0, rv b38_0, rv b37_0] [] _
        refine XS.aload X39.here hx rfl (hb hby at_83) rfl rfl ?_
        show SS p e below T39 m 85 #[iv p1, iv p2, iv p3, iv p4, iv p5, iv (0 : Int32), rv b37_0, rv b38_0, rv b37_0] [(.ref b37_0)] _
        refine XS.ifnullNo X39.here hx rfl (hb hby at_85) rfl ?_
        show SS p e below T39 m 88 #[iv p1, iv p2, iv p3, iv p4, iv p5, iv (0 : Int32), rv b37_0, rv b38_0, rv b37_0] [] _
        refine XS.aload X39.here hx rfl (hb hby at_88) rfl rfl ?_
        refine XS.aload X39.here hx rfl (hb hby at_90) rfl rfl ?_
        show SS p e below T39 m 92 #[iv p1, iv p2, iv p3, iv p4, iv p5, iv (0 : Int32), rv b37_0, rv b38_0, rv b37_0] [(.ref b37_0), (.ref b37_0)] _
        refine st40.trans ?_
        show SS p e below T40 m 95 #[iv p1, iv p2, iv p3, iv p4, iv p5, iv (0 : Int32), rv b37_0, rv b38_0, rv b37_0] [(.int (1 : Int32))] _
        refine XS.ifNo X40.here hx rfl (hb hby at_95) rfl ((if0 _ _).trans (feq (by decide : ¬ ((1 : Int32) = (0 : Int32)))).1) ?_
        show SS p e below T40 m 98 #[iv p1, iv p2, iv p3, iv p4, iv p5, iv (0 : Int32), rv b37_0, rv b38_0, rv b37_0] [] _
        refine XS.iconst X40.here hx rfl (hb hby at_98) ?_
        refine XS.goto X40.here hx rfl (pc0 := 99) (pc' := 103) rfl (hb hby at_99) (by decide) (by decide) ?_
        show SS p e below T40 m 103 #[iv p1, iv p2, iv p3, iv p4, iv p5, iv (0 : Int32), rv b37_0, rv b38_0, rv b37_0] [(.int (1 : Int32))] _
        exact retN X40 hx (t := .boolean) Bd.returns (by simp) (hb hby at_103) hr
      · by_cases hf42 : (255 : Int32) < (nar .char y5)
        · obtain ⟨_, _, ⟨T43, L43, k43, n43⟩, -, X43, ⟨Lc43, hQ43, l43, y43, z43⟩, st43⟩ := Jvm.LawKit.callS X0 hx (y := mn1) hown (mvT hZ (wd1 hw)) (mvT hZ (wd2 hw)) (mvT hZ (wd3 hw)) (mvT hZ (wd4 hw)) (by decide) (backOf (W := 0) (rm1_7 l Z a0 hw [] y3 y5 y7 n_COMPACT_STRINGS h0 n0 OL0 pr11 pr12 hf36 hf42 pr13 pr14 pr15 (own_rechar hf42)) hZ (wd4 hw) (wd3 hw) (by decide) (by decide)) (g := (mkF m 41 #[iv p1, iv p2, iv p3, iv p4, iv p5, iv (0 : Int32), .unset, .unset, .unset] [(.int y7), (.int y5), (.int y3), (.int (3 : Int32))])) rfl (by rw [hml]; rfl) (argsL := [(.int (3 : Int32)), (.int y3), (.int y5), (.int y7)]) (rest := []) (lenOf pd_2 rfl) rfl (by show 2 * 0 + _ ≤ _; exact Nat.le_of_eq rfl) (hb hby at_41) (fun _ _ => ⟨rfl, e0, (by decide : 0 + 4 ≤ _), (by decide : 0 + 16 ≤ _)⟩)
          dsimp only [Pt.U, Pt.locs, Pt.cells, Pt.slots] at X43 l43 y43 z43 st43 hQ43
          subst l43 y43 z43
          obtain ⟨b43_0, b43_1, kx43_0, rfl, Nq43, K43, u43_0, u43_1, u43_2, u43_3, u43_4, u43_5, u43_6⟩ := hQ43
          have KK43 : Keep h0 T43.heap [] := (Keep.refl h0 []).trans K43 all0
          have OL43 := OL0.keep K43 all0
          have g_b43_0 : n0 ≤ b43_0 := Nat.le_trans (Nat.le_trans (Nat.le_of_eq OL0.1.symm) OL0.2.1) u43_0
          have sz_b43_0 : h0.size ≤ b43_0 := Nat.le_trans (Keep.refl h0 []).1 u43_0
          have g_b43_1 : n0 ≤ b43_1 := Nat.le_trans (Nat.le_trans (Nat.le_of_eq OL0.1.symm) OL0.2.1) u43_1
          have sz_b43_1 : h0.size ≤ b43_1 := Nat.le_trans (Keep.refl h0 []).1 u43_1
          have N43 := Fr.app N0 Nq43
          obtain ⟨_, _, ⟨T44, L44, k44, n44⟩, -, X44, ⟨Lc44, hQ44, l44, y44, z44⟩, st44⟩ := Jvm.LawKit.callS X43 hx (y := mn8) hown (mvT hZ (wd35 hw)) (mvT hZ (wd36 hw)) (mvT hZ (wd37 hw)) (mvT hZ (wd38 hw)) (by decide) (backOf (W := 0) (rm8_0 l Z a0 hw [] b43_0 w_EMPTY_MAP T43.heap n0 OL43 pr8) hZ (wd38 hw) (wd37 hw) (by decide) (by decide)) (g := (mkF m 48 #[iv p1, iv p2, iv p3, iv p4, iv p5, iv (0 : Int32), rv b43_0, .unset, .unset] [(.ref b43_0)])) rfl (by rw [hml]; rfl) (argsL := [(.ref b43_0)]) (rest := []) (lenOf pd_5 rfl) rfl (by show 2 * 0 + _ ≤ _; exact Nat.le_of_eq rfl) (hb hby at_48) (fun _ _ => ⟨rfl, rfl, (by decide : 4 + 1 ≤ _), (by decide : 16 + 2 ≤ _)⟩)
          dsimp only [Pt.U, Pt.locs, Pt.cells, Pt.slots] at X44 l44 y44 z44 st44 hQ44
          subst l44 y44 z44
          obtain ⟨b44_0, rfl, Nq44, K44, u44_0, u44_1, u44_2, u44_3⟩ := hQ44
          have KK44 : Keep h0 T44.heap [] := KK43.trans K44 all0
          have OL44 := OL43.keep K44 all0
          have g_b44_0 : n0 ≤ b44_0 := Nat.le_trans (Nat.le_trans (Nat.le_of_eq OL43.1.symm) OL43.2.1) u44_0
          have sz_b44_0 : h0.size ≤ b44_0 := Nat.le_trans KK43.1 u44_0
          have N44 := Fr.app N43 Nq44
          obtain ⟨cq45, kq45, q45a, q45b, q45c⟩ := isOf hZ rfl u44_1
          obtain ⟨_, _, ⟨T45, L45, k45, n45⟩, -, X45, ⟨Lc45, hQ45, l45, y45, z45⟩, st45⟩ := X44.virtualBack hx (y := mn11) (z := mn11) hown (mvT hZ (wd55 hw)) (mvT hZ (wd56 hw)) (notFace_of_selects (args := #[]) (mvT hZ (wd58 hw))) (mvT hZ (wd58 hw)) (mvT hZ (wd57 hw)) (by decide) (backOf (W := 0) (rm11_0 l Z a0 hw [] b44_0 w_EMPTY_MAP b43_0 T44.heap n0 OL44 u44_3 pr9 pr10 u44_2) hZ (wd59 hw) (wd37 hw) (by decide) (by decide)) q45a q45c (g := (mkF m 62 #[iv p1, iv p2, iv p3, iv p4, iv p5, iv (0 : Int32), rv b43_0, rv b44_0, .unset] [(.ref b44_0)])) rfl (by rw [hml]; rfl) (Steps.refl _) (argsL := []) (rest := []) (lenOf pd_7 rfl) rfl (by show 2 * 0 + _ ≤ _; exact Nat.le_of_eq rfl) (hb hby at_62) (fun _ _ => ⟨rfl, rfl, (by decide : 5 + 0 ≤ _), (by decide : 18 + 0 ≤ _)⟩)
          dsimp only [Pt.U, Pt.locs, Pt.cells, Pt.slots] at X45 l45 y45 z45 st45 hQ45
          subst l45 y45 z45
          obtain ⟨rfl, Nq45, ec45⟩ := hQ45
          have N45 := Fr.app N44 Nq45
          have fc47 := (u43_3.keep K44)
          obtain ⟨cq46, kq46, q46a, q46b, q46c⟩ := isOf hZ ec45 fc47
          obtain ⟨_, _, ⟨T46, L46, k46, n46⟩, -, X46, ⟨Lc46, hQ46, l46, y46, z46⟩, st46⟩ := X45.virtualBack hx (y := mn13) (z := mn13) hown (mvT hZ (wd72 hw)) (mvT hZ (wd73 hw)) (notFace_of_selects (args := #[]) (mvT hZ (wd75 hw))) (mvT hZ (wd75 hw)) (mvT hZ (wd74 hw)) (by decide) (backOf (W := 0) (rm13_0 l Z a0 hw [] b43_0 T44.heap n0 OL44 ) hZ (wd76 hw) (wd7 hw) (by decide) (by decide)) q46a q46c (g := (mkF m 92 #[iv p1, iv p2, iv p3, iv p4, iv p5, iv (0 : Int32), rv b43_0, rv b44_0, rv b43_0] [(.ref b43_0), (.ref b43_0)])) rfl (by rw [hml]; rfl) (Steps.refl _) (argsL := [(.ref b43_0)]) (rest := []) (lenOf pd_8 rfl) rfl (by show 2 * 0 + _ ≤ _; exact Nat.le_of_eq rfl) (hb hby at_92) (fun _ _ => ⟨rfl, ec45, (by decide : 5 + 0 ≤ _), (by decide : 18 + 0 ≤ _)⟩)
          dsimp only [Pt.U, Pt.locs, Pt.cells, Pt.slots] at X46 l46 y46 z46 st46 hQ46
          subst l46 y46 z46
          obtain ⟨rfl, Nq46, ec46⟩ := hQ46
          have N46 := Fr.app N45 Nq46
          obtain ⟨fs, hr, hrun, hended, hW, hsame⟩ := X46.leave (v := some (.int (1 : Int32))) (fun h => by rw [Bd.returns] at h; cases h)
          refine ⟨_, _, pre36 _ ?_, hrun, hended, _, _, rfl, ⟨rfl, N46⟩, ⟨_, rfl⟩, hW.wide, hW.no_new_pair _, hsame.mono (by decide) (by decide)⟩
          show SS p e below s₁ m 41 #[iv p1, iv p2, iv p3, iv p4, iv p5, iv (0 : Int32), .unset, .unset, .unset] [(.int y7), (.int y5), (.int y3), (.int (3 : Int32))] _
          refine st43 _ ?_
          show SS p e below T43 m 44 #[iv p1, iv p2, iv p3, iv p4, iv p5, iv (0 : Int32), .unset, .unset, .unset] [(.ref b43_0)] _
          refine XS.astore X43.here hx rfl (hb hby at_44) rfl rfl (l' := #[iv p1, iv p2, iv p3, iv p4, iv p5, iv (0 : Int32), rv b43_0, .unset, .unset]) rfl ?_
          refine XS.aload X43.here hx rfl (hb hby at_46) rfl rfl ?_
          show SS p e below T43 m 48 #[iv p1, iv p2, iv p3, iv p4, iv p5, iv (0 : Int32), rv b43_0, .unset, .unset] [(.ref b43_0)] _
          refine st44 _ ?_
          show SS p e below T44 m 51 #[iv p1, iv p2, iv p3, iv p4, iv p5, iv (0 : Int32), rv b43_0, .unset, .unset] [(.ref b44_0)] _
          refine XS.astore X44.here hx rfl (hb hby at_51) rfl rfl (l' := #[iv p1, iv p2, iv p3, iv p4, iv p5, iv (0 : Int32), rv b43_0, rv b44_0, .unset]) rfl ?_
          refine XS.aload X44.here hx rfl (hb hby at_53) rfl rfl ?_
          show SS p e below T44 m 55 #[iv p1, iv p2, iv p3, iv p4, iv p5, iv (0 : Int32), rv b43_0, rv b44_0, .unset] [(.ref b44_0)] _
          refine XS.ifnonnullYes X44.here hx rfl (pc0 := 55) (pc' := 60) rfl (hb hby at_55) rfl (by decide) (by decide) ?_
          show SS p e below T44 m 60 #[iv p1, iv p2, iv p3, iv p4, iv p5, iv (0 : Int32), rv b43_0, rv b44_0, .unset] [] _
          refine XS.aload X44.here hx rfl (hb hby at_60) rfl rfl ?_
          show SS p e below T44 m 62 #[iv p1, iv p2, iv p3, iv p4, iv p5, iv (0 : Int32), rv b43_0, rv b44_0, .unset] [(.ref b44_0)] _
          refine st45.trans ?_
          show SS p e below T45 m 65 #[iv p1, iv p2, iv p3, iv p4, iv p5, iv (0 : Int32), rv b43_0, rv b44_0, .unset] [(.ref b43_0)] _
          refine XS.astore X45.here hx rfl (hb hby at_65) rfl rfl (l' := #[iv p1, iv p2, iv p3, iv p4, iv p5, iv (0 : Int32), rv b43_0, rv b44_0, rv b43_0]) rfl ?_
          refine XS.aload X45.here hx rfl (hb hby at_67) rfl rfl ?_
          show SS p e below T45 m 69 #[iv p1, iv p2, iv p3, iv p4, iv p5, iv (0 : Int32), rv b43_0, rv b44_0, rv b43_0] [(.ref b43_0)] _
          refine XS.ifnonnullYes X45.here hx rfl (pc0 := 69) (pc' := 83) rfl (hb hby at_69) rfl (by decide) (by decide) ?_
          show SS p e below T45 m 83 #[iv p1, iv p2, iv p3, iv p4, iv p5, iv (0 : Int32), rv b43_0, rv b44_0, rv b43_0] [] _
          refine XS.aload X45.here hx rfl (hb hby at_83) rfl rfl ?_
          show SS p e below T45 m 85 #[iv p1, iv p2, iv p3, iv p4, iv p5, iv (0 : Int32), rv b43_0, rv b44_0, rv b43_0] [(.ref b43_0)] _
          refine XS.ifnullNo X45.here hx rfl (hb hby at_85) rfl ?_
          show SS p e below T45 m 88 #[iv p1, iv p2, iv p3, iv p4, iv p5, iv (0 : Int32), rv b43_0, rv b44_0, rv b43_0] [] _
          refine XS.aload X45.here hx rfl (hb hby at_88) rfl rfl ?_
          refine XS.aload X45.here hx rfl (hb hby at_90) rfl rfl ?_
          show SS p e below T45 m 92 #[iv p1, iv p2, iv p3, iv p4, iv p5, iv (0 : Int32), rv b43_0, rv b44_0, rv b43_0] [(.ref b43_0), (.ref b43_0)] _
          refine st46.trans ?_
          show SS p e below T46 m 95 #[iv p1, iv p2, iv p3, iv p4, iv p5, iv (0 : Int32), rv b43_0, rv b44_0, rv b43_0] [(.int (1 : Int32))] _
          refine XS.ifNo X46.here hx rfl (hb hby at_95) rfl ((if0 _ _).trans (feq (by decide : ¬ ((1 : Int32) = (0 : Int32)))).1) ?_
          show SS p e below T46 m 98 #[iv p1, iv p2, iv p3, iv p4, iv p5, iv (0 : Int32), rv b43_0, rv b44_0, rv b43_0] [] _
          refine XS.iconst X46.here hx rfl (hb hby at_98) ?_
          refine XS.goto X46.here hx rfl (pc0 := 99) (pc' := 103) rfl (hb hby at_99) (by decide) (by decide) ?_
          show SS p e below T46 m 103 #[iv p1, iv p2, iv p3, iv p4, iv p5, iv (0 : Int32), rv b43_0, rv b44_0, rv b43_0] [(.int (1 : Int32))] _
          exact retN X46 hx (t := .boolean) Bd.returns (by simp) (hb hby at_103) hr
        · by_cases hf48 : (255 : Int32) < (nar .char y7)
          · obtain ⟨_, _, ⟨T49, L49, k49, n49⟩, -, X49, ⟨Lc49, hQ49, l49, y49, z49⟩, st49⟩ := Jvm.LawKit.callS X0 hx (y := mn1) hown (mvT hZ (wd1 hw)) (mvT hZ (wd2 hw)) (mvT hZ (wd3 hw)) (mvT hZ (wd4 hw)) (by decide) (backOf (W := 0) (rm1_8 l Z a0 hw [] y3 y5 y7 n_COMPACT_STRINGS h0 n0 OL0 pr11 pr12 hf36 hf42 hf48 pr13 pr14 pr15 (own_rechar hf48)) hZ (wd4 hw) (wd3 hw) (by decide) (by decide)) (g := (mkF m 41 #[iv p1, iv p2, iv p3, iv p4, iv p5, iv (0 : Int32), .unset, .unset, .unset] [(.int y7), (.int y5), (.int y3), (.int (3 : Int32))])) rfl (by rw [hml]; rfl) (argsL := [(.int (3 : Int32)), (.int y3), (.int y5), (.int y7)]) (rest := []) (lenOf pd_2 rfl) rfl (by show 2 * 0 + _ ≤ _; exact Nat.le_of_eq rfl) (hb hby at_41) (fun _ _ => ⟨rfl, e0, (by decide : 0 + 4 ≤ _), (by decide : 0 + 16 ≤ _)⟩)
            dsimp only [Pt.U, Pt.locs, Pt.cells, Pt.slots] at X49 l49 y49 z49 st49 hQ49
            subst l49 y49 z49
            obtain ⟨b49_0, b49_1, kx49_0, rfl, Nq49, K49, u49_0, u49_1, u49_2, u49_3, u49_4, u49_5, u49_6⟩ := hQ49
            have KK49 : Keep h0 T49.heap [] := (Keep.refl h0 []).trans K49 all0
            have OL49 := OL0.keep K49 all0
            have g_b49_0 : n0 ≤ b49_0 := Nat.le_trans (Nat.le_trans (Nat.le_of_eq OL0.1.symm) OL0.2.1) u49_0
            have sz_b49_0 : h0.size ≤ b49_0 := Nat.le_trans (Keep.refl h0 []).1 u49_0
            have g_b49_1 : n0 ≤ b49_1 := Nat.le_trans (Nat.le_trans (Nat.le_of_eq OL0.1.symm) OL0.2.1) u49_1
            have sz_b49_1 : h0.size ≤ b49_1 := Nat.le_trans (Keep.refl h0 []).1 u49_1
            have N49 := Fr.app N0 Nq49
            obtain ⟨_, _, ⟨T50, L50, k50, n50⟩, -, X50, ⟨Lc50, hQ50, l50, y50, z50⟩, st50⟩ := Jvm.LawKit.callS X49 hx (y := mn8) hown (mvT hZ (wd35 hw)) (mvT hZ (wd36 hw)) (mvT hZ (wd37 hw)) (mvT hZ (wd38 hw)) (by decide) (backOf (W := 0) (rm8_0 l Z a0 hw [] b49_0 w_EMPTY_MAP T49.heap n0 OL49 pr8) hZ (wd38 hw) (wd37 hw) (by decide) (by decide)) (g := (mkF m 48 #[iv p1, iv p2, iv p3, iv p4, iv p5, iv (0 : Int32), rv b49_0, .unset, .unset] [(.ref b49_0)])) rfl (by rw [hml]; rfl) (argsL := [(.ref b49_0)]) (rest := []) (lenOf pd_5 rfl) rfl (by show 2 * 0 + _ ≤ _; exact Nat.le_of_eq rfl) (hb hby at_48) (fun _ _ => ⟨rfl, rfl, (by decide : 4 + 1 ≤ _), (by decide : 16 + 2 ≤ _)⟩)
            dsimp only [Pt.U, Pt.locs, Pt.cells, Pt.slots] at X50 l50 y50 z50 st50 hQ50
            subst l50 y50 z50
            obtain ⟨b50_0, rfl, Nq50, K50, u50_0, u50_1, u50_2, u50_3⟩ := hQ50
            have KK50 : Keep h0 T50.heap [] := KK49.trans K50 all0
            have OL50 := OL49.keep K50 all0
            have g_b50_0 : n0 ≤ b50_0 := Nat.le_trans (Nat.le_trans (Nat.le_of_eq OL49.1.symm) OL49.2.1) u50_0
            have sz_b50_0 : h0.size ≤ b50_0 := Nat.le_trans KK49.1 u50_0
            have N50 := Fr.app N49 Nq50
            obtain ⟨cq51, kq51, q51a, q51b, q51c⟩ := isOf hZ rfl u50_1
            obtain ⟨_, _, ⟨T51, L51, k51, n51⟩, -, X51, ⟨Lc51, hQ51, l51, y51, z51⟩, st51⟩ := X50.virtualBack hx (y := mn11) (z := mn11) hown (mvT hZ (wd55 hw)) (mvT hZ (wd56 hw)) (notFace_of_selects (args := #[]) (mvT hZ (wd58 hw))) (mvT hZ (wd58 hw)) (mvT hZ (wd57 hw)) (by decide) (backOf (W := 0) (rm11_0 l Z a0 hw [] b50_0 w_EMPTY_MAP b49_0 T50.heap n0 OL50 u50_3 pr9 pr10 u50_2) hZ (wd59 hw) (wd37 hw) (by decide) (by decide)) q51a q51c (g := (mkF m 62 #[iv p1, iv p2, iv p3, iv p4, iv p5, iv (0 : Int32), rv b49_0, rv b50_0, .unset] [(.ref b50_0)])) rfl (by rw [hml]; rfl) (Steps.refl _) (argsL := []) (rest := []) (lenOf pd_7 rfl) rfl (by show 2 * 0 + _ ≤ _; exact Nat.le_of_eq rfl) (hb hby at_62) (fun _ _ => ⟨rfl, rfl, (by decide : 5 + 0 ≤ _), (by decide : 18 + 0 ≤ _)⟩)
            dsimp only [Pt.U, Pt.locs, Pt.cells, Pt.slots] at X51 l51 y51 z51 st51 hQ51
            subst l51 y51 z51
            obtain ⟨rfl, Nq51, ec51⟩ := hQ51
            have N51 := Fr.app N50 Nq51
            have fc53 := (u49_3.keep K50)
            obtain ⟨cq52, kq52, q52a, q52b, q52c⟩ := isOf hZ ec51 fc53
            obtain ⟨_, _, ⟨T52, L52, k52, n52⟩, -, X52, ⟨Lc52, hQ52, l52, y52, z52⟩, st52⟩ := X51.virtualBack hx (y := mn13) (z := mn13) hown (mvT hZ (wd72 hw)) (mvT hZ (wd73 hw)) (notFace_of_selects (args := #[]) (mvT hZ (wd75 hw))) (mvT hZ (wd75 hw)) (mvT hZ (wd74 hw)) (by decide) (backOf (W := 0) (rm13_0 l Z a0 hw [] b49_0 T50.heap n0 OL50 ) hZ (wd76 hw) (wd7 hw) (by decide) (by decide)) q52a q52c (g := (mkF m 92 #[iv p1, iv p2, iv p3, iv p4, iv p5, iv (0 : Int32), rv b49_0, rv b50_0, rv b49_0] [(.ref b49_0), (.ref b49_0)])) rfl (by rw [hml]; rfl) (Steps.refl _) (argsL := [(.ref b49_0)]) (rest := []) (lenOf pd_8 rfl) rfl (by show 2 * 0 + _ ≤ _; exact Nat.le_of_eq rfl) (hb hby at_92) (fun _ _ => ⟨rfl, ec51, (by decide : 5 + 0 ≤ _), (by decide : 18 + 0 ≤ _)⟩)
            dsimp only [Pt.U, Pt.locs, Pt.cells, Pt.slots] at X52 l52 y52 z52 st52 hQ52
            subst l52 y52 z52
            obtain ⟨rfl, Nq52, ec52⟩ := hQ52
            have N52 := Fr.app N51 Nq52
            obtain ⟨fs, hr, hrun, hended, hW, hsame⟩ := X52.leave (v := some (.int (1 : Int32))) (fun h => by rw [Bd.returns] at h; cases h)
            refine ⟨_, _, pre36 _ ?_, hrun, hended, _, _, rfl, ⟨rfl, N52⟩, ⟨_, rfl⟩, hW.wide, hW.no_new_pair _, hsame.mono (by decide) (by decide)⟩
            show SS p e below s₁ m 41 #[iv p1, iv p2, iv p3, iv p4, iv p5, iv (0 : Int32), .unset, .unset, .unset] [(.int y7), (.int y5), (.int y3), (.int (3 : Int32))] _
            refine st49 _ ?_
            show SS p e below T49 m 44 #[iv p1, iv p2, iv p3, iv p4, iv p5, iv (0 : Int32), .unset, .unset, .unset] [(.ref b49_0)] _
            refine XS.astore X49.here hx rfl (hb hby at_44) rfl rfl (l' := #[iv p1, iv p2, iv p3, iv p4, iv p5, iv (0 : Int32), rv b49_0, .unset, .unset]) rfl ?_
            refine XS.aload X49.here hx rfl (hb hby at_46) rfl rfl ?_
            show SS p e below T49 m 48 #[iv p1, iv p2, iv p3, iv p4, iv p5, iv (0 : Int32), rv b49_0, .unset, .unset] [(.ref b49_0)] _
            refine st50 _ ?_
            show SS p e below T50 m 51 #[iv p1, iv p2, iv p3, iv p4, iv p5, iv (0 : Int32), rv b49_0, .unset, .unset] [(.ref b50_0)] _
            refine XS.astore X50.here hx rfl (hb hby at_51) rfl rfl (l' := #[iv p1, iv p2, iv p3, iv p4, iv p5, iv (0 : Int32), rv b49_0, rv b50_0, .unset]) rfl ?_
            refine XS.aload X50.here hx rfl (hb hby at_53) rfl rfl ?_
            show SS p e below T50 m 55 #[iv p1, iv p2, iv p3, iv p4, iv p5, iv (0 : Int32), rv b49_0, rv b50_0, .unset] [(.ref b50_0)] _
            refine XS.ifnonnullYes X50.here hx rfl (pc0 := 55) (pc' := 60) rfl (hb hby at_55) rfl (by decide) (by decide) ?_
            show SS p e below T50 m 60 #[iv p1, iv p2, iv p3, iv p4, iv p5, iv (0 : Int32), rv b49_0, rv b50_0, .unset] [] _
            refine XS.aload X50.here hx rfl (hb hby at_60) rfl rfl ?_
            show SS p e below T50 m 62 #[iv p1, iv p2, iv p3, iv p4, iv p5, iv (0 : Int32), rv b49_0, rv b50_0, .unset] [(.ref b50_0)] _
            refine st51.trans ?_
            show SS p e below T51 m 65 #[iv p1, iv p2, iv p3, iv p4, iv p5, iv (0 : Int32), rv b49_0, rv b50_0, .unset] [(.ref b49_0)] _
            refine XS.astore X51.here hx rfl (hb hby at_65) rfl rfl (l' := #[iv p1, iv p2, iv p3, iv p4, iv p5, iv (0 : Int32), rv b49_0, rv b50_0, rv b49_0]) rfl ?_
            refine XS.aload X51.here hx rfl (hb hby at_67) rfl rfl ?_
            show SS p e below T51 m 69 #[iv p1, iv p2, iv p3, iv p4, iv p5, iv (0 : Int32), rv b49_0, rv b50_0, rv b49_0] [(.ref b49_0)] _
            refine XS.ifnonnullYes X51.here hx rfl (pc0 := 69) (pc' := 83) rfl (hb hby at_69) rfl (by decide) (by decide) ?_
            show SS p e below T51 m 83 #[iv p1, iv p2, iv p3, iv p4, iv p5, iv (0 : Int32), rv b49_0, rv b50_0, rv b49_0] [] _
            refine XS.aload X51.here hx rfl (hb hby at_83) rfl rfl ?_
            show SS p e below T51 m 85 #[iv p1, iv p2, iv p3, iv p4, iv p5, iv (0 : Int32), rv b49_0, rv b50_0, rv b49_0] [(.ref b49_0)] _
            refine XS.ifnullNo X51.here hx rfl (hb hby at_85) rfl ?_
            show SS p e below T51 m 88 #[iv p1, iv p2, iv p3, iv p4, iv p5, iv (0 : Int32), rv b49_0, rv b50_0, rv b49_0] [] _
            refine XS.aload X51.here hx rfl (hb hby at_88) rfl rfl ?_
            refine XS.aload X51.here hx rfl (hb hby at_90) rfl rfl ?_
            show SS p e below T51 m 92 #[iv p1, iv p2, iv p3, iv p4, iv p5, iv (0 : Int32), rv b49_0, rv b50_0, rv b49_0] [(.ref b49_0), (.ref b49_0)] _
            refine st52.trans ?_
            show SS p e below T52 m 95 #[iv p1, iv p2, iv p3, iv p4, iv p5, iv (0 : Int32), rv b49_0, rv b50_0, rv b49_0] [(.int (1 : Int32))] _
            refine XS.ifNo X52.here hx rfl (hb hby at_95) rfl ((if0 _ _).trans (feq (by decide : ¬ ((1 : Int32) = (0 : Int32)))).1) ?_
            show SS p e below T52 m 98 #[iv p1, iv p2, iv p3, iv p4, iv p5, iv (0 : Int32), rv b49_0, rv b50_0, rv b49_0] [] _
            refine XS.iconst X52.here hx rfl (hb hby at_98) ?_
            refine XS.goto X52.here hx rfl (pc0 := 99) (pc' := 103) rfl (hb hby at_99) (by decide) (by decide) ?_
            show SS p e below T52 m 103 #[iv p1, iv p2, iv p3, iv p4, iv p5, iv (0 : Int32), rv b49_0, rv b50_0, rv b49_0] [(.int (1 : Int32))] _
            exact retN X52 hx (t := .boolean) Bd.returns (by simp) (hb hby at_103) hr
          · obtain ⟨_, _, ⟨T54, L54, k54, n54⟩, -, X54, ⟨Lc54, hQ54, l54, y54, z54⟩, st54⟩ := Jvm.LawKit.callS X0 hx (y := mn1) hown (mvT hZ (wd1 hw)) (mvT hZ (wd2 hw)) (mvT hZ (wd3 hw)) (mvT hZ (wd4 hw)) (by decide) (backOf (W := 0) (rm1_9 l Z a0 hw [] y3 y5 y7 n_COMPACT_STRINGS h0 n0 OL0 pr11 pr12 hf36 hf42 hf48) hZ (wd4 hw) (wd3 hw) (by decide) (by decide)) (g := (mkF m 41 #[iv p1, iv p2, iv p3, iv p4, iv p5, iv (0 : Int32), .unset, .unset, .unset] [(.int y7), (.int y5), (.int y3), (.int (3 : Int32))])) rfl (by rw [hml]; rfl) (argsL := [(.int (3 : Int32)), (.int y3), (.int y5), (.int y7)]) (rest := []) (lenOf pd_2 rfl) rfl (by show 2 * 0 + _ ≤ _; exact Nat.le_of_eq rfl) (hb hby at_41) (fun _ _ => ⟨rfl, e0, (by decide : 0 + 3 ≤ _), (by decide : 0 + 10 ≤ _)⟩)
            dsimp only [Pt.U, Pt.locs, Pt.cells, Pt.slots] at X54 l54 y54 z54 st54 hQ54
            subst l54 y54 z54
            obtain ⟨b54_0, b54_1, kx54_0, rfl, Nq54, K54, u54_0, u54_1, u54_2, u54_3, u54_4, u54_5, u54_6⟩ := hQ54
            have KK54 : Keep h0 T54.heap [] := (Keep.refl h0 []).trans K54 all0
            have OL54 := OL0.keep K54 all0
            have g_b54_0 : n0 ≤ b54_0 := Nat.le_trans (Nat.le_trans (Nat.le_of_eq OL0.1.symm) OL0.2.1) u54_0
            have sz_b54_0 : h0.size ≤ b54_0 := Nat.le_trans (Keep.refl h0 []).1 u54_0
            have g_b54_1 : n0 ≤ b54_1 := Nat.le_trans (Nat.le_trans (Nat.le_of_eq OL0.1.symm) OL0.2.1) u54_1
            have sz_b54_1 : h0.size ≤ b54_1 := Nat.le_trans (Keep.refl h0 []).1 u54_1
            have N54 := Fr.app N0 Nq54
            obtain ⟨_, _, ⟨T55, L55, k55, n55⟩, -, X55, ⟨Lc55, hQ55, l55, y55, z55⟩, st55⟩ := Jvm.LawKit.callS X54 hx (y := mn8) hown (mvT hZ (wd35 hw)) (mvT hZ (wd36 hw)) (mvT hZ (wd37 hw)) (mvT hZ (wd38 hw)) (by decide) (backOf (W := 0) (rm8_0 l Z a0 hw [] b54_0 w_EMPTY_MAP T54.heap n0 OL54 pr8) hZ (wd38 hw) (wd37 hw) (by decide) (by decide)) (g := (mkF m 48 #[iv p1, iv p2, iv p3, iv p4, iv p5, iv (0 : Int32), rv b54_0, .unset, .unset] [(.ref b54_0)])) rfl (by rw [hml]; rfl) (argsL := [(.ref b54_0)]) (rest := []) (lenOf pd_5 rfl) rfl (by show 2 * 0 + _ ≤ _; exact Nat.le_of_eq rfl) (hb hby at_48) (fun _ _ => ⟨rfl, rfl, (by decide : 3 + 1 ≤ _), (by decide : 10 + 2 ≤ _)⟩)
            dsimp only [Pt.U, Pt.locs, Pt.cells, Pt.slots] at X55 l55 y55 z55 st55 hQ55
            subst l55 y55 z55
            obtain ⟨b55_0, rfl, Nq55, K55, u55_0, u55_1, u55_2, u55_3⟩ := hQ55
            have KK55 : Keep h0 T55.heap [] := KK54.trans K55 all0
            have OL55 := OL54.keep K55 all0
            have g_b55_0 : n0 ≤ b55_0 := Nat.le_trans (Nat.le_trans (Nat.le_of_eq OL54.1.symm) OL54.2.1) u55_0
            have sz_b55_0 : h0.size ≤ b55_0 := Nat.le_trans KK54.1 u55_0
            have N55 := Fr.app N54 Nq55
            obtain ⟨cq56, kq56, q56a, q56b, q56c⟩ := isOf hZ rfl u55_1
            obtain ⟨_, _, ⟨T56, L56, k56, n56⟩, -, X56, ⟨Lc56, hQ56, l56, y56, z56⟩, st56⟩ := X55.virtualBack hx (y := mn11) (z := mn11) hown (mvT hZ (wd55 hw)) (mvT hZ (wd56 hw)) (notFace_of_selects (args := #[]) (mvT hZ (wd58 hw))) (mvT hZ (wd58 hw)) (mvT hZ (wd57 hw)) (by decide) (backOf (W := 0) (rm11_0 l Z a0 hw [] b55_0 w_EMPTY_MAP b54_0 T55.heap n0 OL55 u55_3 pr9 pr10 u55_2) hZ (wd59 hw) (wd37 hw) (by decide) (by decide)) q56a q56c (g := (mkF m 62 #[iv p1, iv p2, iv p3, iv p4, iv p5, iv (0 : Int32), rv b54_0, rv b55_0, .unset] [(.ref b55_0)])) rfl (by rw [hml]; rfl) (Steps.refl _) (argsL := []) (rest := []) (lenOf pd_7 rfl) rfl (by show 2 * 0 + _ ≤ _; exact Nat.le_of_eq rfl) (hb hby at_62) (fun _ _ => ⟨rfl, rfl, (by decide : 4 + 0 ≤ _), (by decide : 12 + 0 ≤ _)⟩)
            dsimp only [Pt.U, Pt.locs, Pt.cells, Pt.slots] at X56 l56 y56 z56 st56 hQ56
            subst l56 y56 z56
            obtain ⟨rfl, Nq56, ec56⟩ := hQ56
            have N56 := Fr.app N55 Nq56
            have fc58 := (u54_3.keep K55)
            obtain ⟨cq57, kq57, q57a, q57b, q57c⟩ := isOf hZ ec56 fc58
            obtain ⟨_, _, ⟨T57, L57, k57, n57⟩, -, X57, ⟨Lc57, hQ57, l57, y57, z57⟩, st57⟩ := X56.virtualBack hx (y := mn13) (z := mn13) hown (mvT hZ (wd72 hw)) (mvT hZ (wd73 hw)) (notFace_of_selects (args := #[]) (mvT hZ (wd75 hw))) (mvT hZ (wd75 hw)) (mvT hZ (wd74 hw)) (by decide) (backOf (W := 0) (rm13_0 l Z a0 hw [] b54_0 T55.heap n0 OL55 ) hZ (wd76 hw) (wd7 hw) (by decide) (by decide)) q57a q57c (g := (mkF m 92 #[iv p1, iv p2, iv p3, iv p4, iv p5, iv (0 : Int32), rv b54_0, rv b55_0, rv b54_0] [(.ref b54_0), (.ref b54_0)])) rfl (by rw [hml]; rfl) (Steps.refl _) (argsL := [(.ref b54_0)]) (rest := []) (lenOf pd_8 rfl) rfl (by show 2 * 0 + _ ≤ _; exact Nat.le_of_eq rfl) (hb hby at_92) (fun _ _ => ⟨rfl, ec56, (by decide : 4 + 0 ≤ _), (by decide : 12 + 0 ≤ _)⟩)
            dsimp only [Pt.U, Pt.locs, Pt.cells, Pt.slots] at X57 l57 y57 z57 st57 hQ57
            subst l57 y57 z57
            obtain ⟨rfl, Nq57, ec57⟩ := hQ57
            have N57 := Fr.app N56 Nq57
            obtain ⟨fs, hr, hrun, hended, hW, hsame⟩ := X57.leave (v := some (.int (1 : Int32))) (fun h => by rw [Bd.returns] at h; cases h)
            refine ⟨_, _, pre36 _ ?_, hrun, hended, _, _, rfl, ⟨rfl, N57⟩, ⟨_, rfl⟩, hW.wide, hW.no_new_pair _, hsame.mono (by decide) (by decide)⟩
            show SS p e below s₁ m 41 #[iv p1, iv p2, iv p3, iv p4, iv p5, iv (0 : Int32), .unset, .unset, .unset] [(.int y7), (.int y5), (.int y3), (.int (3 : Int32))] _
            refine st54 _ ?_
            show SS p e below T54 m 44 #[iv p1, iv p2, iv p3, iv p4, iv p5, iv (0 : Int32), .unset, .unset, .unset] [(.ref b54_0)] _
            refine XS.astore X54.here hx rfl (hb hby at_44) rfl rfl (l' := #[iv p1, iv p2, iv p3, iv p4, iv p5, iv (0 : Int32), rv b54_0, .unset, .unset]) rfl ?_
            refine XS.aload X54.here hx rfl (hb hby at_46) rfl rfl ?_
            show SS p e below T54 m 48 #[iv p1, iv p2, iv p3, iv p4, iv p5, iv (0 : Int32), rv b54_0, .unset, .unset] [(.ref b54_0)] _
            refine st55 _ ?_
            show SS p e below T55 m 51 #[iv p1, iv p2, iv p3, iv p4, iv p5, iv (0 : Int32), rv b54_0, .unset, .unset] [(.ref b55_0)] _
            refine XS.astore X55.here hx rfl (hb hby at_51) rfl rfl (l' := #[iv p1, iv p2, iv p3, iv p4, iv p5, iv (0 : Int32), rv b54_0, rv b55_0, .unset]) rfl ?_
            refine XS.aload X55.here hx rfl (hb hby at_53) rfl rfl ?_
            show SS p e below T55 m 55 #[iv p1, iv p2, iv p3, iv p4, iv p5, iv (0 : Int32), rv b54_0, rv b55_0, .unset] [(.ref b55_0)] _
            refine XS.ifnonnullYes X55.here hx rfl (pc0 := 55) (pc' := 60) rfl (hb hby at_55) rfl (by decide) (by decide) ?_
            show SS p e below T55 m 60 #[iv p1, iv p2, iv p3, iv p4, iv p5, iv (0 : Int32), rv b54_0, rv b55_0, .unset] [] _
            refine XS.aload X55.here hx rfl (hb hby at_60) rfl rfl ?_
            show SS p e below T55 m 62 #[iv p1, iv p2, iv p3, iv p4, iv p5, iv (0 : Int32), rv b54_0, rv b55_0, .unset] [(.ref b55_0)] _
            refine st56.trans ?_
            show SS p e below T56 m 65 #[iv p1, iv p2, iv p3, iv p4, iv p5, iv (0 : Int32), rv b54_0, rv b55_0, .unset] [(.ref b54_0)] _
            refine XS.astore X56.here hx rfl (hb hby at_65) rfl rfl (l' := #[iv p1, iv p2, iv p3, iv p4, iv p5, iv (0 : Int32), rv b54_0, rv b55_0, rv b54_0]) rfl ?_
            refine XS.aload X56.here hx rfl (hb hby at_67) rfl rfl ?_
            show SS p e below T56 m 69 #[iv p1, iv p2, iv p3, iv p4, iv p5, iv (0 : Int32), rv b54_0, rv b55_0, rv b54_0] [(.ref b54_0)] _
            refine XS.ifnonnullYes X56.here hx rfl (pc0 := 69) (pc' := 83) rfl (hb hby at_69) rfl (by decide) (by decide) ?_
            show SS p e below T56 m 83 #[iv p1, iv p2, iv p3, iv p4, iv p5, iv (0 : Int32), rv b54_0, rv b55_0, rv b54_0] [] _
            refine XS.aload X56.here hx rfl (hb hby at_83) rfl rfl ?_
            show SS p e below T56 m 85 #[iv p1, iv p2, iv p3, iv p4, iv p5, iv (0 : Int32), rv b54_0, rv b55_0, rv b54_0] [(.ref b54_0)] _
            refine XS.ifnullNo X56.here hx rfl (hb hby at_85) rfl ?_
            show SS p e below T56 m 88 #[iv p1, iv p2, iv p3, iv p4, iv p5, iv (0 : Int32), rv b54_0, rv b55_0, rv b54_0] [] _
            refine XS.aload X56.here hx rfl (hb hby at_88) rfl rfl ?_
            refine XS.aload X56.here hx rfl (hb hby at_90) rfl rfl ?_
            show SS p e below T56 m 92 #[iv p1, iv p2, iv p3, iv p4, iv p5, iv (0 : Int32), rv b54_0, rv b55_0, rv b54_0] [(.ref b54_0), (.ref b54_0)] _
            refine st57.trans ?_
            show SS p e below T57 m 95 #[iv p1, iv p2, iv p3, iv p4, iv p5, iv (0 : Int32), rv b54_0, rv b55_0, rv b54_0] [(.int (1 : Int32))] _
            refine XS.ifNo X57.here hx rfl (hb hby at_95) rfl ((if0 _ _).trans (feq (by decide : ¬ ((1 : Int32) = (0 : Int32)))).1) ?_
            show SS p e below T57 m 98 #[iv p1, iv p2, iv p3, iv p4, iv p5, iv (0 : Int32), rv b54_0, rv b55_0, rv b54_0] [] _
            refine XS.iconst X57.here hx rfl (hb hby at_98) ?_
            refine XS.goto X57.here hx rfl (pc0 := 99) (pc' := 103) rfl (hb hby at_99) (by decide) (by decide) ?_
            show SS p e below T57 m 103 #[iv p1, iv p2, iv p3, iv p4, iv p5, iv (0 : Int32), rv b54_0, rv b55_0, rv b54_0] [(.int (1 : Int32))] _
            exact retN X57 hx (t := .boolean) Bd.returns (by simp) (hb hby at_103) hr
  · obtain ⟨_, _, ⟨T59, L59, k59, n59⟩, -, X59, ⟨Lc59, hQ59, l59, y59, z59⟩, st59⟩ := Jvm.LawKit.callS X0 hx (y := mn8) hown (mvT hZ (wd35 hw)) (mvT hZ (wd36 hw)) (mvT hZ (wd37 hw)) (mvT hZ (wd38 hw)) (by decide) (backOf (W := 0) (rm8_1 l Z a0 hw [] w_NONE h0 n0 OL0 pr16) hZ (wd38 hw) (wd37 hw) (by decide) (by decide)) (g := (mkF m 48 #[iv p1, iv p2, iv p3, iv p4, iv p5, iv (1 : Int32), .val .null, .unset, .unset] [.null])) rfl (by rw [hml]; rfl) (argsL := [.null]) (rest := []) (lenOf pd_5 rfl) rfl (by show 2 * 0 + _ ≤ _; exact Nat.le_of_eq rfl) (hb hby at_48) (fun _ _ => ⟨rfl, e0, (by decide : 0 + 0 ≤ _), (by decide : 0 + 0 ≤ _)⟩)
    dsimp only [Pt.U, Pt.locs, Pt.cells, Pt.slots] at X59 l59 y59 z59 st59 hQ59
    subst l59 y59 z59
    obtain ⟨rfl, Nq59, ec59⟩ := hQ59
    have N59 := Fr.app N0 Nq59
    obtain ⟨cq60, kq60, q60a, q60b, q60c⟩ := isOf hZ ec59 (pr19.ext OL0.2)
    obtain ⟨_, _, ⟨T60, L60, k60, n60⟩, -, X60, ⟨Lc60, hQ60, l60, y60, z60⟩, st60⟩ := X59.virtualBack hx (y := mn11) (z := mn11) hown (mvT hZ (wd55 hw)) (mvT hZ (wd56 hw)) (notFace_of_selects (args := #[]) (mvT hZ (wd58 hw))) (mvT hZ (wd58 hw)) (mvT hZ (wd57 hw)) (by decide) (backOf (W := 0) (rm11_1 l Z a0 hw [] w_NONE w_EMPTY_MAP h0 n0 OL0 pr17 pr9 pr10 pr18) hZ (wd59 hw) (wd37 hw) (by decide) (by decide)) q60a q60c (g := (mkF m 62 #[iv p1, iv p2, iv p3, iv p4, iv p5, iv (1 : Int32), .val .null, rv w_NONE, .unset] [(.ref w_NONE)])) rfl (by rw [hml]; rfl) (Steps.refl _) (argsL := []) (rest := []) (lenOf pd_7 rfl) rfl (by show 2 * 0 + _ ≤ _; exact Nat.le_of_eq rfl) (hb hby at_62) (fun _ _ => ⟨rfl, ec59, (by decide : 0 + 0 ≤ _), (by decide : 0 + 0 ≤ _)⟩)
    dsimp only [Pt.U, Pt.locs, Pt.cells, Pt.slots] at X60 l60 y60 z60 st60 hQ60
    subst l60 y60 z60
    obtain ⟨rfl, Nq60, ec60⟩ := hQ60
    have N60 := Fr.app N59 Nq60
    obtain ⟨fs, hr, hrun, hended, hW, hsame⟩ := X60.leave (v := some (.int (1 : Int32))) (fun h => by rw [Bd.returns] at h; cases h)
    refine ⟨_, _, pre1 _ ?_, hrun, hended, _, _, rfl, ⟨rfl, N60⟩, ⟨_, rfl⟩, hW.wide, hW.no_new_pair _, hsame.mono (by decide) (by decide)⟩
    show SS p e below s₁ m 3 #[iv p1, iv p2, iv p3, iv p4, iv p5, .unset, .unset, .unset, .unset] [(.int y1)] _
    refine XS.ifNo X0.here hx rfl (hb hby at_3) rfl ((if0 _ _).trans (feq hf1).1) ?_
    show SS p e below s₁ m 6 #[iv p1, iv p2, iv p3, iv p4, iv p5, .unset, .unset, .unset, .unset] [] _
    refine XS.iconst X0.here hx rfl (hb hby at_6) ?_
    refine XS.goto X0.here hx rfl (pc0 := 7) (pc' := 11) rfl (hb hby at_7) (by decide) (by decide) ?_
    refine XS.istore X0.here hx rfl (hb hby at_11) rfl (l' := #[iv p1, iv p2, iv p3, iv p4, iv p5, iv (1 : Int32), .unset, .unset, .unset]) rfl ?_
    refine XS.iload X0.here hx rfl (hb hby at_13) rfl ?_
    show SS p e below s₁ m 15 #[iv p1, iv p2, iv p3, iv p4, iv p5, iv (1 : Int32), .unset, .unset, .unset] [(.int (1 : Int32))] _
    refine XS.ifNo X0.here hx rfl (hb hby at_15) rfl ((if0 _ _).trans (feq (by decide : ¬ ((1 : Int32) = (0 : Int32)))).1) ?_
    show SS p e below s₁ m 18 #[iv p1, iv p2, iv p3, iv p4, iv p5, iv (1 : Int32), .unset, .unset, .unset] [] _
    refine XS.aconstNull X0.here hx rfl (hb hby at_18) ?_
    refine XS.goto X0.here hx rfl (pc0 := 19) (pc' := 44) rfl (hb hby at_19) (by decide) (by decide) ?_
    refine XS.astore X0.here hx rfl (hb hby at_44) rfl rfl (l' := #[iv p1, iv p2, iv p3, iv p4, iv p5, iv (1 : Int32), .val .null, .unset, .unset]) rfl ?_
    refine XS.aload X0.here hx rfl (hb hby at_46) rfl rfl ?_
    show SS p e below s₁ m 48 #[iv p1, iv p2, iv p3, iv p4, iv p5, iv (1 : Int32), .val .null, .unset, .unset] [.null] _
    refine st59 _ ?_
    show SS p e below T59 m 51 #[iv p1, iv p2, iv p3, iv p4, iv p5, iv (1 : Int32), .val .null, .unset, .unset] [(.ref w_NONE)] _
    refine XS.astore X59.here hx rfl (hb hby at_51) rfl rfl (l' := #[iv p1, iv p2, iv p3, iv p4, iv p5, iv (1 : Int32), .val .null, rv w_NONE, .unset]) rfl ?_
    refine XS.aload X59.here hx rfl (hb hby at_53) rfl rfl ?_
    show SS p e below T59 m 55 #[iv p1, iv p2, iv p3, iv p4, iv p5, iv (1 : Int32), .val .null, rv w_NONE, .unset] [(.ref w_NONE)] _
    refine XS.ifnonnullYes X59.here hx rfl (pc0 := 55) (pc' := 60) rfl (hb hby at_55) rfl (by decide) (by decide) ?_
    show SS p e below T59 m 60 #[iv p1, iv p2, iv p3, iv p4, iv p5, iv (1 : Int32), .val .null, rv w_NONE, .unset] [] _
    refine XS.aload X59.here hx rfl (hb hby at_60) rfl rfl ?_
    show SS p e below T59 m 62 #[iv p1, iv p2, iv p3, iv p4, iv p5, iv (1 : Int32), .val .null, rv w_NONE, .unset] [(.ref w_NONE)] _
    refine st60.trans ?_
    show SS p e below T60 m 65 #[iv p1, iv p2, iv p3, iv p4, iv p5, iv (1 : Int32), .val .null, rv w_NONE, .unset] [.null] _
    refine XS.astore X60.here hx rfl (hb hby at_65) rfl rfl (l' := #[iv p1, iv p2, iv p3, iv p4, iv p5, iv (1 : Int32), .val .null, rv w_NONE, .val .null]) rfl ?_
    refine XS.aload X60.here hx rfl (hb hby at_67) rfl rfl ?_
    show SS p e below T60 m 69 #[iv p1, iv p2, iv p3, iv p4, iv p5, iv (1 : Int32), .val .null, rv w_NONE, .val .null] [.null] _
    refine XS.ifnonnullNo X60.here hx rfl (hb hby at_69) rfl ?_
    show SS p e below T60 m 72 #[iv p1, iv p2, iv p3, iv p4, iv p5, iv (1 : Int32), .val .null, rv w_NONE, .val .null] [] _
    refine XS.aload X60.here hx rfl (hb hby at_72) rfl rfl ?_
    show SS p e below T60 m 74 #[iv p1, iv p2, iv p3, iv p4, iv p5, iv (1 : Int32), .val .null, rv w_NONE, .val .null] [.null] _
    refine XS.ifnonnullNo X60.here hx rfl (hb hby at_74) rfl ?_
    show SS p e below T60 m 77 #[iv p1, iv p2, iv p3, iv p4, iv p5, iv (1 : Int32), .val .null, rv w_NONE, .val .null] [] _
    refine XS.iconst X60.here hx rfl (hb hby at_77) ?_
    refine XS.goto X60.here hx rfl (pc0 := 78) (pc' := 82) rfl (hb hby at_78) (by decide) (by decide) ?_
    show SS p e below T60 m 82 #[iv p1, iv p2, iv p3, iv p4, iv p5, iv (1 : Int32), .val .null, rv w_NONE, .val .null] [(.int (1 : Int32))] _
    exact retN X60 hx (t := .boolean) Bd.returns (by simp) (hb hby at_82) hr
set_option maxRecDepth 65536 in
set_option maxHeartbeats 40000000 in
theorem comes_1 {Post : Tables → Env → Array Value → State → Outcome → State → Prop} (hpost : ∀ tb e args s v u, (limb_1_1.after args s (.returned v) u = true ∧ limb_1_2.after args s (.returned v) u = true ∧ True) → ReturnedEndW s (.returned v) u (Jvm.fieldLocs frame_1_writes args s ++ Jvm.arrayLocs frame_1_arrays args s ++ Jvm.staticLocs frame_1_statics s) 24 1152 → Post tb e args s (.returned v) u) :
    ArmFor flags0 classFile x code maxLocals ret World_1 tables_1 room_1 Calls_1 rest_1 Pre_1 Post := by
  intro l hfl _ _ p e ha hc hk s m args below hf hA hF happ hP
  obtain ⟨hcalls, hrest, hpre⟩ := hP
  obtain ⟨-, -, -, hnamed, -, -, -, hat⟩ := (Spec.applies_iff hf).mp happ
  obtain ⟨hg, hn⟩ := and_e (Cond.before_iff.mp (show (Jvm.Cond.and given_1 narrow_1).before args s = true from hpre))
  obtain ⟨g20, g21⟩ := and_e hg
  obtain ⟨g22, g23⟩ := and_e g21
  obtain ⟨g24, g25⟩ := and_e g23
  obtain ⟨g26, g27⟩ := and_e g25
  obtain ⟨g28, g29⟩ := and_e g27
  obtain ⟨w0, w1, w2, w3, w4, rfl⟩ : ∃ w0 w1 w2 w3 w4 : Value, args = #[w0, w1, w2, w3, w4] := by
    have hs : args.size = 5 := by simpa [Cond.value, given_1] using g20
    obtain ⟨L⟩ := args
    match L, hs with
    | [w0, w1, w2, w3, w4], _ => exact ⟨w0, w1, w2, w3, w4, rfl⟩
  have hw := fun d (hd : d ∈ tables_1) => atoms_spec (ws := Jvm.Cond.code x code maxLocals ret :: tables_1) hat d (List.mem_cons_of_mem _ hd)
  have hfit : Fit s := fun {y c} hc i hi => by
    obtain ⟨ha, rfl⟩ := Array.getElem?_eq_some_iff.mp hc
    have q := List.all_eq_true.mp ((Array.all_eq_true_iff_forall_mem.mp hF) _ (Array.getElem_mem ha)) i (List.mem_range.mpr hi)
    simpa [Array.getElem?_eq_getElem hi] using q
  obtain ⟨hsets, hown0⟩ := atoms_of _ (rest_1_c_eq ▸ (show rest_1_c.before _ s = true from hrest))
  obtain ⟨i0, ei0⟩ := is_v g22
  obtain rfl : w0 = (.int i0) := Option.some.inj ei0
  obtain ⟨i1, ei1⟩ := is_v g24
  obtain rfl : w1 = (.int i1) := Option.some.inj ei1
  obtain ⟨i2, ei2⟩ := is_v g26
  obtain rfl : w2 = (.int i2) := Option.some.inj ei2
  obtain ⟨i3, ei3⟩ := is_v g28
  obtain rfl : w3 = (.int i3) := Option.some.inj ei3
  obtain ⟨i4, ei4⟩ := is_v g29
  obtain rfl : w4 = (.int i4) := Option.some.inj ei4
  obtain ⟨n1, n2⟩ := and_e hn
  obtain ⟨n3, n4⟩ := and_e n2
  obtain ⟨w_NONE, ev5⟩ := exa_v n1
  have S_SrsDefaults_NONE : Sta s s.heap "com/example/aeroslice/aeroslice/SrsDefaults" "NONE" "Lcom/example/aeroslice/aeroslice/SrsDefaults;" (.ref w_NONE) := Sta.start ev5 (Or.inr ⟨(wd37 hw), (wd78 hw)⟩)
  have E_w_NONE : Exa s s.heap w_NONE "com/example/aeroslice/aeroslice/SrsDefaults" := Exa.start ev5 n1
  obtain ⟨w_EMPTY_MAP, ev6⟩ := exa_v (Cond.before_iff.mp (hsets _ (List.mem_of_getElem? (i := 11) rfl)))
  have S_ImmutableCollections_EMPTY_MAP : Sta s s.heap "java/util/ImmutableCollections" "EMPTY_MAP" "Ljava/util/ImmutableCollections$MapN;" (.ref w_EMPTY_MAP) := Sta.start ev6 (Or.inl (hsets _ (List.mem_of_getElem? (i := 10) rfl)))
  have E_w_EMPTY_MAP : Exa s s.heap w_EMPTY_MAP "java/util/ImmutableCollections$MapN" := Exa.start ev6 (Cond.before_iff.mp (hsets _ (List.mem_of_getElem? (i := 11) rfl)))
  obtain ⟨n_COMPACT_STRINGS, ev7⟩ := is_v (Cond.before_iff.mp (hsets _ (List.mem_of_getElem? (i := 1) rfl)))
  have S_String_COMPACT_STRINGS : Sta s s.heap "java/lang/String" "COMPACT_STRINGS" "Z" (.int n_COMPACT_STRINGS) := Sta.start ev7 (Or.inl (hsets _ (List.mem_of_getElem? (i := 0) rfl)))
  obtain ⟨w_EMPTY_MAP__table, ev8⟩ := exa_v (Cond.before_iff.mp (hsets _ (List.mem_of_getElem? (i := 13) rfl)))
  have F_9 : Fld s s.heap w_EMPTY_MAP "java/util/ImmutableCollections$MapN" "table" "[Ljava/lang/Object;" (.ref w_EMPTY_MAP__table) := Fld.start ((fld_at ev6).symm.trans ev8)
  have E_w_EMPTY_MAP__table : Exa s s.heap w_EMPTY_MAP__table "[Ljava/lang/Object;" := Exa.start ev8 (Cond.before_iff.mp (hsets _ (List.mem_of_getElem? (i := 13) rfl)))
  have ev10 := own_eqR ev6 n3
  have F_11 : Fld s s.heap w_NONE "com/example/aeroslice/aeroslice/SrsDefaults" "byProperty" "Ljava/util/Map;" (.ref w_EMPTY_MAP) := Fld.start ((fld_at ev5).symm.trans ev10)
  have ev12 := null_v n4
  have F_13 : Fld s s.heap w_NONE "com/example/aeroslice/aeroslice/SrsDefaults" "common" "Ljava/lang/String;" .null := Fld.start ((fld_at ev5).symm.trans ev12)
  have ev14 := own_eqI (Cond.before_iff.mp (hsets _ (List.mem_of_getElem? (i := 15) rfl)))
  have F_15 : Fld s s.heap w_EMPTY_MAP "java/util/ImmutableCollections$MapN" "size" "I" (.int (0 : Int32)) := Fld.start ((fld_at ev6).symm.trans ev14)
  have ev16 := own_eqI (Cond.before_iff.mp (hsets _ (List.mem_of_getElem? (i := 19) rfl)))
  have S_StringUTF16__assertionsDisabled : Sta s s.heap "java/lang/StringUTF16" "$assertionsDisabled" "Z" (.int (1 : Int32)) := Sta.start ev16 (Or.inl (hsets _ (List.mem_of_getElem? (i := 18) rfl)))
  have ev17 := own_eqI (Cond.before_iff.mp (hsets _ (List.mem_of_getElem? (i := 22) rfl)))
  have S_StringUTF16_HI_BYTE_SHIFT : Sta s s.heap "java/lang/StringUTF16" "HI_BYTE_SHIFT" "I" (.int (0 : Int32)) := Sta.start ev17 (Or.inl (hsets _ (List.mem_of_getElem? (i := 21) rfl)))
  have ev18 := own_eqI (Cond.before_iff.mp (hsets _ (List.mem_of_getElem? (i := 25) rfl)))
  have S_StringUTF16_LO_BYTE_SHIFT : Sta s s.heap "java/lang/StringUTF16" "LO_BYTE_SHIFT" "I" (.int (8 : Int32)) := Sta.start ev18 (Or.inl (hsets _ (List.mem_of_getElem? (i := 24) rfl)))
  have nz19 : ¬ (n_COMPACT_STRINGS = (0 : Int32)) := gotF (Cond.eq_ints ev7 (Term.int_eval (0))) (not_v (Cond.before_iff.mp (hsets _ (List.mem_of_getElem? (i := 2) rfl))))
  obtain ⟨k_w_EMPTY_MAP__table, V_w_EMPTY_MAP__table⟩ := own_arr0 hfit ev8 (Cond.before_iff.mp (hsets _ (List.mem_of_getElem? (i := 12) rfl))) (Cond.before_iff.mp (hsets _ (List.mem_of_getElem? (i := 14) rfl)))
  have CH0 : CHv s own_EL s.vm s.heap := CHv.start (a0 := _) (own_EW hw) (fun p hp => hcalls.1 p hp) (hsets _ (List.mem_of_getElem? (i := 2) rfl)) (wd24 hw) (wd6 hw)
  have R : MetFree l x (head1 (Jvm.Cond.code x code maxLocals ret :: tables_1) room_1) (fun a U => a = #[(.int i0), (.int i1), (.int i2), (.int i3), (.int i4)] ∧ s.Warmed39 U.vm ∧ U.heap = s.heap ∧ CHv s own_EL U.vm s.heap) (fun _ _ _ _ _ => True) (fun _ U o U' => ∃ v L, o = .returned v ∧ Q0 s.heap.size v L ∧ ReturnedEndW U o U' L 24 1152) := by
    exact rm0 l s _ hw tables_1 i0 i1 i2 i3 i4 (i0 &&& (1 : Int32)) (i2 &&& (65535 : Int32)) ((i2 &&& (65535 : Int32)).toUInt32.toUInt16.toUInt32.toInt32) (i3 &&& (65535 : Int32)) ((i3 &&& (65535 : Int32)).toUInt32.toUInt16.toUInt32.toInt32) (i4 &&& (65535 : Int32)) ((i4 &&& (65535 : Int32)).toUInt32.toUInt16.toUInt32.toInt32) w_EMPTY_MAP n_COMPACT_STRINGS w_NONE s.heap s.heap.size (Old.start s) rfl rfl rfl rfl rfl rfl rfl S_ImmutableCollections_EMPTY_MAP F_15 E_w_EMPTY_MAP S_String_COMPACT_STRINGS nz19 S_StringUTF16__assertionsDisabled S_StringUTF16_HI_BYTE_SHIFT S_StringUTF16_LO_BYTE_SHIFT S_SrsDefaults_NONE F_11 F_13 E_w_NONE
  obtain ⟨n, o, h1, h2, h3, _, L, rfl, ⟨rfl, N⟩, hq⟩ := R p e ha hc hk s m _ below hf ((Spec.applies_iff_loose hf).mp happ).1 ⟨rfl, State.Warmed39.refl s, rfl, CH0⟩ trivial
  refine ⟨n, _, h1, h2, h3, hpost _ _ _ _ _ _ ⟨Cond.after_iff.mpr rfl, Cond.after_iff.mpr (eq_i res_at (Term.int_eval (1)) rfl), trivial⟩ ⟨hq.1, hq.2.1, hq.2.2.1, (hq.2.2.2.sift fun y hy => Or.inr (N y hy)).mono (by decide) (by decide)⟩⟩
theorem main_1_1 : Claimed_1_1 := comes_1 fun _ _ _ _ _ _ h hF => ⟨h.1, hF⟩
theorem main_1_2 : Claimed_1_2 := comes_1 fun _ _ _ _ _ _ h hF => ⟨h.2.1, hF⟩
end Jvm.Pilot.@@N@@
namespace Jvm.Pilot.@@N@@
open Jvm Jvm.ClassFile Sem Op Lib Jvm.Free Jvm.Stand Jvm.Pilot.@@N@@.Jvm.D
/-! MADE BY PROGRAM (witnessworld.py) out of the Statement's table words and the real class files: 26 classes; the members and pool entries that the words name. The judged class is class 1, her method 2. -/
namespace start1
open Jvm.ClassFile
def u (s : String) : CpInfo := .utf8 (stringToUtf16 s)
/-- a pool by its gaps: so many unusable entries, then the entry; so many at the end -/
def gap : Nat → List CpInfo → List CpInfo
  | 0, r => r
  | n + 1, r => .unusable :: gap n r
def poolList (es : List (Nat × CpInfo)) (last : Nat) : List CpInfo := es.foldr (fun e r => gap e.1 (e.2 :: r)) (gap last [])
def pool (es : List (Nat × CpInfo)) (last : Nat) : Array CpInfo := ⟨poolList es last⟩
def fileOf (pool : Array CpInfo) (this : Nat) (attrs : Array Attribute := #[]) (ms : Array MethodInfo := #[]) (fl : Nat := 33) (sup : Nat := 0) (ifs : Array Nat := #[]) (fds : Array FieldInfo := #[]) : ClassFile where
  minorVersion := 0
  majorVersion := 65
  constantPool := pool
  accessFlags := fl
  thisClass := this
  superClass := sup
  interfaces := ifs
  fields := fds
  methods := ms
  attributes := attrs
def plain (name : String) (sup : Option ClassId) : Class where
  name := name
  kind := .ordinary
  loader := none
  accessFlags := 33
  super := sup
  interfaces := #[]
  cf := none
  fields := #[]
  methods := #[]
  instanceTypes := #[]
  staticTypes := #[]
  resolved := #[]
  callSites := []
  init := .initialized
  statics := none
  mirror := none

def pool0 : Array CpInfo := pool [(5, u "<init>"), (0, u "()V"), (1, .class_ 10), (1, u "java/lang/Object")] 113

def k0c0 : Code := { maxStack := 0, maxLocals := 1, code := object_method_1_code, exceptionTable := #[], attributes := #[] }
def k0m0 : Method := { name := "<init>", desc := "()V", sig := { parameters := [], returnType := none }, accessFlags := 1, code := some k0c0 }
/-- java/lang/Object -/
def k0 : Class := { plain "java/lang/Object" none with
  accessFlags := 33
  interfaces := #[]
  cf := some (fileOf pool0 8 #[] #[{ accessFlags := 1, nameIndex := 5, descriptorIndex := 6, attributes := #[] }] 33 0 #[] #[])
  fields := #[]
  methods := #[k0m0]
  instanceTypes := #[]
  staticTypes := #[]
  resolved := Array.replicate 124 none
  statics := none }

def pool1 : Array CpInfo := pool [(2, .class_ 4), (1, u "java/lang/Object"), (0, u "<init>"), (0, u "()V"), (0, .class_ 8), (0, u "java/lang/String"), (0, .methodref 7 10), (0, .nameAndType 5 11), (0, u "([C)V"), (0, .methodref 7 13), (0, .nameAndType 14 15), (0, u "valueOf"), (0, u "(C)Ljava/lang/String;"), (0, .integer 65535), (0, .methodref 18 19), (0, .class_ 20), (0, .nameAndType 21 22), (0, u "com/example/aeroslice/aeroslice/SrsDefaultsOfPinLaw"), (0, u "draw"), (0, u "(ICCC)Ljava/lang/String;"), (0, .methodref 24 25), (0, .class_ 26), (0, .nameAndType 27 28), (0, u "com/example/aeroslice/aeroslice/SrsDefaults"), (0, u "of"), (0, u "(Ljava/lang/String;)Lcom/example/aeroslice/aeroslice/SrsDefaults;"), (0, .methodref 24 30), (0, .nameAndType 31 32), (0, u "ofEveryProperty"), (0, u "()Ljava/lang/String;"), (0, .methodref 7 34), (0, .nameAndType 35 36), (0, u "equals"), (0, u "(Ljava/lang/Object;)Z"), (3, u "law"), (0, u "(IIIII)Z")] 2

def k1m0 : Method := { name := "<init>", desc := "()V", sig := { parameters := [], returnType := none }, accessFlags := 1, code := none }
def k1c1 : Code := { maxStack := 6, maxLocals := 4, code := method_2_code, exceptionTable := #[], attributes := #[] }
def k1m1 : Method := { name := "draw", desc := "(ICCC)Ljava/lang/String;", sig := { parameters := [.int, .char, .char, .char], returnType := some (.object "java/lang/String") }, accessFlags := 10, code := some k1c1 }
def k1c2 : Code := { maxStack := 5, maxLocals := 9, code := code, exceptionTable := #[], attributes := #[] }
def k1m2 : Method := { name := "law", desc := "(IIIII)Z", sig := { parameters := [.int, .int, .int, .int, .int], returnType := some .boolean }, accessFlags := 9, code := some k1c2 }
/-- com/example/aeroslice/aeroslice/SrsDefaultsOfPinLaw -/
def k1 : Class := { plain "com/example/aeroslice/aeroslice/SrsDefaultsOfPinLaw" (some 0) with
  accessFlags := 49
  interfaces := #[]
  cf := some (fileOf pool1 18 #[] #[{ accessFlags := 1, nameIndex := 5, descriptorIndex := 6, attributes := #[] }, { accessFlags := 10, nameIndex := 21, descriptorIndex := 22, attributes := #[] }, { accessFlags := 9, nameIndex := 40, descriptorIndex := 41, attributes := #[] }] 49 2 #[] #[])
  fields := #[]
  methods := #[k1m0, k1m1, k1m2]
  instanceTypes := #[]
  staticTypes := #[]
  resolved := Array.replicate 44 none
  statics := none }

def pool2 : Array CpInfo := pool [(1, .class_ 2), (0, u "java/io/Serializable"), (0, .class_ 4), (0, u "java/lang/Object")] 2

/-- java/io/Serializable -/
def k2 : Class := { plain "java/io/Serializable" (some 0) with
  accessFlags := 1537
  interfaces := #[]
  cf := some (fileOf pool2 1 #[] #[] 1537 3 #[] #[])
  fields := #[]
  methods := #[]
  instanceTypes := #[]
  staticTypes := #[]
  resolved := Array.replicate 7 none
  statics := none }

def pool3 : Array CpInfo := pool [(1, .class_ 2), (0, u "java/lang/Comparable"), (0, .class_ 4), (0, u "java/lang/Object")] 7

/-- java/lang/Comparable -/
def k3 : Class := { plain "java/lang/Comparable" (some 0) with
  accessFlags := 1537
  interfaces := #[]
  cf := some (fileOf pool3 1 #[] #[] 1537 3 #[] #[])
  fields := #[]
  methods := #[]
  instanceTypes := #[]
  staticTypes := #[]
  resolved := Array.replicate 12 none
  statics := none }

def pool4 : Array CpInfo := pool [(2, .class_ 4), (1, u "java/lang/CharSequence"), (42, .class_ 48), (0, u "java/lang/CharSequence$1CodePointIterator"), (10, .class_ 60), (0, u "java/lang/CharSequence$1CharIterator"), (5, .class_ 67), (0, u "java/lang/Object")] 63

/-- java/lang/CharSequence -/
def k4 : Class := { plain "java/lang/CharSequence" (some 0) with
  accessFlags := 1537
  interfaces := #[]
  cf := some (fileOf pool4 2 #[.nestMembers #[47, 59]] #[] 1537 66 #[] #[])
  fields := #[]
  methods := #[]
  instanceTypes := #[]
  staticTypes := #[]
  resolved := Array.replicate 131 none
  statics := none }

def pool5 : Array CpInfo := pool [(1, .class_ 2), (0, u "java/lang/constant/Constable"), (0, .class_ 4), (0, u "java/lang/Object")] 6

/-- java/lang/constant/Constable -/
def k5 : Class := { plain "java/lang/constant/Constable" (some 0) with
  accessFlags := 1537
  interfaces := #[]
  cf := some (fileOf pool5 1 #[] #[] 1537 3 #[] #[])
  fields := #[]
  methods := #[]
  instanceTypes := #[]
  staticTypes := #[]
  resolved := Array.replicate 11 none
  statics := none }

def pool6 : Array CpInfo := pool [(1, .class_ 2), (0, u "java/lang/constant/ConstantDesc"), (0, .class_ 4), (0, u "java/lang/Object")] 32

/-- java/lang/constant/ConstantDesc -/
def k6 : Class := { plain "java/lang/constant/ConstantDesc" (some 0) with
  accessFlags := 1537
  interfaces := #[]
  cf := some (fileOf pool6 1 #[] #[] 1537 3 #[] #[])
  fields := #[]
  methods := #[]
  instanceTypes := #[]
  staticTypes := #[]
  resolved := Array.replicate 37 none
  statics := none }

def pool7 : Array CpInfo := pool [(1, .methodref 2 3), (0, .class_ 4), (0, .nameAndType 5 6), (0, u "java/lang/Object"), (0, u "<init>"), (0, u "()V"), (0, .string 8), (0, u ""), (0, .fieldref 10 11), (0, .class_ 12), (0, .nameAndType 13 14), (0, u "java/lang/String"), (0, u "value"), (0, u "[B"), (0, .fieldref 10 16), (0, .nameAndType 17 18), (0, u "coder"), (0, u "B"), (2, u "hash"), (0, u "I"), (2, u "hashIsZero"), (0, u "Z"), (0, .methodref 10 28), (0, .nameAndType 5 29), (0, u "([CIILjava/lang/Void;)V"), (8, .fieldref 10 39), (0, .nameAndType 40 26), (0, u "COMPACT_STRINGS"), (1, .class_ 44), (1, u "java/lang/StringUTF16"), (0, u "compress"), (1, .methodref 42 48), (0, .nameAndType 49 50), (0, u "coderFromArrayLen"), (0, u "([BI)B"), (2, u "toBytes"), (53, .class_ 109), (1, u "java/lang/StringLatin1"), (67, .methodref 42 178), (0, .nameAndType 45 179), (0, u "([CII)[B"), (29, .methodref 10 210), (0, .nameAndType 5 211), (0, u "([BB)V"), (157, u "(C)Z"), (173, u "equals"), (29, u "(Ljava/lang/Object;)Z"), (1, .class_ 576), (0, u "java/lang/CharSequence"), (22, u "CASE_INSENSITIVE_ORDER"), (0, u "Ljava/util/Comparator;"), (181, u "valueOf"), (0, u "(C)Ljava/lang/String;"), (226, u "([C)V"), (4, .methodref 107 1016), (0, .nameAndType 1017 369), (0, u "canEncode"), (0, .methodref 107 1019), (0, .nameAndType 53 1020), (0, u "(C)[B"), (0, .methodref 42 1019), (79, u "serialPersistentFields"), (0, u "[Ljava/io/ObjectStreamField;"), (0, .class_ 1104), (0, u "java/lang/String$CaseInsensitiveComparator"), (1, .class_ 1107), (0, u "java/io/Serializable"), (0, .class_ 1109), (0, u "java/lang/Comparable"), (0, .class_ 1111), (0, u "java/lang/constant/Constable"), (0, .class_ 1113), (0, u "java/lang/constant/ConstantDesc"), (2, u "serialVersionUID"), (0, u "J"), (3, u "REPL"), (0, u "C"), (2, u "LATIN1"), (1, u "UTF16")] 323

def k7m0 : Method := { name := "<init>", desc := "()V", sig := { parameters := [], returnType := none }, accessFlags := 1, code := none }
def k7c1 : Code := { maxStack := 5, maxLocals := 2, code := jdk_42_method_3_code, exceptionTable := #[], attributes := #[] }
def k7m1 : Method := { name := "<init>", desc := "([C)V", sig := { parameters := [(.array .char)], returnType := none }, accessFlags := 1, code := some k7c1 }
def k7c2 : Code := { maxStack := 2, maxLocals := 3, code := jdk_42_method_66_code, exceptionTable := #[], attributes := #[] }
def k7m2 : Method := { name := "equals", desc := "(Ljava/lang/Object;)Z", sig := { parameters := [(.object "java/lang/Object")], returnType := some .boolean }, accessFlags := 1, code := some k7c2 }
def k7c3 : Code := { maxStack := 4, maxLocals := 1, code := jdk_42_method_139_code, exceptionTable := #[], attributes := #[] }
def k7m3 : Method := { name := "valueOf", desc := "(C)Ljava/lang/String;", sig := { parameters := [.char], returnType := some (.object "java/lang/String") }, accessFlags := 9, code := some k7c3 }
def k7c4 : Code := { maxStack := 4, maxLocals := 6, code := jdk_42_method_149_code, exceptionTable := #[], attributes := #[] }
def k7m4 : Method := { name := "<init>", desc := "([CIILjava/lang/Void;)V", sig := { parameters := [(.array .char), .int, .int, (.object "java/lang/Void")], returnType := none }, accessFlags := 2, code := some k7c4 }
def k7c5 : Code := { maxStack := 2, maxLocals := 3, code := jdk_42_method_151_code, exceptionTable := #[], attributes := #[] }
def k7m5 : Method := { name := "<init>", desc := "([BB)V", sig := { parameters := [(.array .byte), .byte], returnType := none }, accessFlags := 0, code := some k7c5 }
/-- java/lang/String -/
def k7 : Class := { plain "java/lang/String" (some 0) with
  accessFlags := 49
  interfaces := #[2, 3, 4, 5, 6]
  cf := some (fileOf pool7 10 #[.nestMembers #[1103]] #[{ accessFlags := 1, nameIndex := 5, descriptorIndex := 6, attributes := #[] }, { accessFlags := 1, nameIndex := 5, descriptorIndex := 1010, attributes := #[] }, { accessFlags := 1, nameIndex := 543, descriptorIndex := 573, attributes := #[] }, { accessFlags := 9, nameIndex := 782, descriptorIndex := 783, attributes := #[] }, { accessFlags := 2, nameIndex := 5, descriptorIndex := 29, attributes := #[] }, { accessFlags := 0, nameIndex := 5, descriptorIndex := 211, attributes := #[] }] 49 2 #[1106, 1108, 575, 1110, 1112] #[{ accessFlags := 18, nameIndex := 13, descriptorIndex := 14, attributes := #[] }, { accessFlags := 18, nameIndex := 17, descriptorIndex := 18, attributes := #[] }, { accessFlags := 2, nameIndex := 21, descriptorIndex := 22, attributes := #[] }, { accessFlags := 2, nameIndex := 25, descriptorIndex := 26, attributes := #[] }, { accessFlags := 26, nameIndex := 1116, descriptorIndex := 1117, attributes := #[] }, { accessFlags := 24, nameIndex := 40, descriptorIndex := 26, attributes := #[] }, { accessFlags := 26, nameIndex := 1101, descriptorIndex := 1102, attributes := #[] }, { accessFlags := 26, nameIndex := 1121, descriptorIndex := 1122, attributes := #[] }, { accessFlags := 25, nameIndex := 599, descriptorIndex := 600, attributes := #[] }, { accessFlags := 24, nameIndex := 1125, descriptorIndex := 18, attributes := #[] }, { accessFlags := 24, nameIndex := 1127, descriptorIndex := 18, attributes := #[] }])
  fields := #[{ name := "value", type := (.array .byte), accessFlags := 18, slot := 0, constantValue := 0 }, { name := "coder", type := .byte, accessFlags := 18, slot := 1, constantValue := 0 }, { name := "hash", type := .int, accessFlags := 2, slot := 2, constantValue := 0 }, { name := "hashIsZero", type := .boolean, accessFlags := 2, slot := 3, constantValue := 0 }, { name := "serialVersionUID", type := .long, accessFlags := 26, slot := 0, constantValue := 0 }, { name := "COMPACT_STRINGS", type := .boolean, accessFlags := 24, slot := 1, constantValue := 0 }, { name := "serialPersistentFields", type := (.array (.object "java/io/ObjectStreamField")), accessFlags := 26, slot := 2, constantValue := 0 }, { name := "REPL", type := .char, accessFlags := 26, slot := 3, constantValue := 0 }, { name := "CASE_INSENSITIVE_ORDER", type := (.object "java/util/Comparator"), accessFlags := 25, slot := 4, constantValue := 0 }, { name := "LATIN1", type := .byte, accessFlags := 24, slot := 5, constantValue := 0 }, { name := "UTF16", type := .byte, accessFlags := 24, slot := 6, constantValue := 0 }]
  methods := #[k7m0, k7m1, k7m2, k7m3, k7m4, k7m5]
  instanceTypes := #[(.array .byte), .byte, .int, .boolean]
  staticTypes := #[.long, .boolean, (.array (.object "java/io/ObjectStreamField")), .char, (.object "java/util/Comparator"), .byte, .byte]
  resolved := Array.replicate 1451 none
  statics := some 0 }

def pool8 : Array CpInfo := pool [(6, .class_ 8), (1, u "java/lang/Object"), (0, u "<init>"), (0, u "()V"), (0, .methodref 12 13), (0, .class_ 14), (0, .nameAndType 15 16), (0, u "java/lang/StringUTF16"), (0, u "newBytesLength"), (0, u "(I)I"), (3, .integer 1073741823), (23, .fieldref 12 45), (0, .nameAndType 46 47), (0, u "$assertionsDisabled"), (0, u "Z"), (11, .fieldref 12 60), (0, .nameAndType 61 62), (0, u "HI_BYTE_SHIFT"), (0, u "I"), (0, .fieldref 12 64), (0, .nameAndType 65 62), (0, u "LO_BYTE_SHIFT"), (5, .methodref 12 72), (0, .nameAndType 73 74), (0, u "getChar"), (0, u "([BI)C"), (32, .methodref 12 108), (0, .nameAndType 109 110), (0, u "newBytesFor"), (0, u "(I)[B"), (0, .methodref 12 112), (0, .nameAndType 113 114), (0, u "putChar"), (0, u "([BII)V"), (0, .methodref 12 116), (0, .nameAndType 117 118), (0, u "compress"), (0, u "([CI[BII)I"), (0, .methodref 12 120), (0, .nameAndType 121 122), (0, u "toBytes"), (0, u "([CII)[B"), (138, u "coderFromArrayLen"), (0, u "([BI)B"), (106, .class_ 371), (1, u "java/lang/StringUTF16$LinesSpliterator"), (58, u "MAX_LENGTH"), (44, u "(C)[B"), (151, .class_ 628), (0, u "java/lang/StringUTF16$CodePointsSpliterator"), (0, .class_ 630), (0, u "java/lang/StringUTF16$CharsSpliterator")] 4

def k8m0 : Method := { name := "<init>", desc := "()V", sig := { parameters := [], returnType := none }, accessFlags := 0, code := none }
def k8c1 : Code := { maxStack := 1, maxLocals := 1, code := jdk_52_method_2_code, exceptionTable := #[], attributes := #[] }
def k8m1 : Method := { name := "newBytesFor", desc := "(I)[B", sig := { parameters := [.int], returnType := some (.array .byte) }, accessFlags := 9, code := some k8c1 }
def k8c2 : Code := { maxStack := 4, maxLocals := 1, code := jdk_52_method_3_code, exceptionTable := #[], attributes := #[] }
def k8m2 : Method := { name := "newBytesLength", desc := "(I)I", sig := { parameters := [.int], returnType := some .int }, accessFlags := 9, code := some k8c2 }
def k8c3 : Code := { maxStack := 4, maxLocals := 3, code := jdk_52_method_4_code, exceptionTable := #[], attributes := #[] }
def k8m3 : Method := { name := "putChar", desc := "([BII)V", sig := { parameters := [(.array .byte), .int, .int], returnType := none }, accessFlags := 8, code := some k8c3 }
def k8c4 : Code := { maxStack := 3, maxLocals := 2, code := jdk_52_method_5_code, exceptionTable := #[], attributes := #[] }
def k8m4 : Method := { name := "getChar", desc := "([BI)C", sig := { parameters := [(.array .byte), .int], returnType := some .char }, accessFlags := 8, code := some k8c4 }
def k8c5 : Code := { maxStack := 4, maxLocals := 5, code := jdk_52_method_14_code, exceptionTable := #[], attributes := #[] }
def k8m5 : Method := { name := "toBytes", desc := "([CII)[B", sig := { parameters := [(.array .char), .int, .int], returnType := some (.array .byte) }, accessFlags := 9, code := some k8c5 }
def k8c6 : Code := { maxStack := 2, maxLocals := 2, code := jdk_52_method_15_code, exceptionTable := #[], attributes := #[] }
def k8m6 : Method := { name := "coderFromArrayLen", desc := "([BI)B", sig := { parameters := [(.array .byte), .int], returnType := some .byte }, accessFlags := 8, code := some k8c6 }
def k8c7 : Code := { maxStack := 5, maxLocals := 6, code := jdk_52_method_16_code, exceptionTable := #[], attributes := #[] }
def k8m7 : Method := { name := "compress", desc := "([CII)[B", sig := { parameters := [(.array .char), .int, .int], returnType := some (.array .byte) }, accessFlags := 9, code := some k8c7 }
def k8c8 : Code := { maxStack := 3, maxLocals := 7, code := jdk_52_method_21_code, exceptionTable := #[], attributes := #[] }
def k8m8 : Method := { name := "compress", desc := "([CI[BII)I", sig := { parameters := [(.array .char), .int, (.array .byte), .int, .int], returnType := some .int }, accessFlags := 9, code := some k8c8 }
def k8c9 : Code := { maxStack := 3, maxLocals := 2, code := jdk_52_method_24_code, exceptionTable := #[], attributes := #[] }
def k8m9 : Method := { name := "toBytes", desc := "(C)[B", sig := { parameters := [.char], returnType := some (.array .byte) }, accessFlags := 9, code := some k8c9 }
/-- java/lang/StringUTF16 -/
def k8 : Class := { plain "java/lang/StringUTF16" (some 0) with
  accessFlags := 48
  interfaces := #[]
  cf := some (fileOf pool8 12 #[.nestMembers #[627, 629, 369]] #[{ accessFlags := 0, nameIndex := 9, descriptorIndex := 10, attributes := #[] }, { accessFlags := 9, nameIndex := 109, descriptorIndex := 110, attributes := #[] }, { accessFlags := 9, nameIndex := 15, descriptorIndex := 16, attributes := #[] }, { accessFlags := 8, nameIndex := 113, descriptorIndex := 114, attributes := #[] }, { accessFlags := 8, nameIndex := 73, descriptorIndex := 74, attributes := #[] }, { accessFlags := 9, nameIndex := 121, descriptorIndex := 122, attributes := #[] }, { accessFlags := 8, nameIndex := 261, descriptorIndex := 262, attributes := #[] }, { accessFlags := 9, nameIndex := 117, descriptorIndex := 122, attributes := #[] }, { accessFlags := 9, nameIndex := 117, descriptorIndex := 118, attributes := #[] }, { accessFlags := 9, nameIndex := 121, descriptorIndex := 475, attributes := #[] }] 48 6 #[] #[{ accessFlags := 26, nameIndex := 61, descriptorIndex := 62, attributes := #[] }, { accessFlags := 26, nameIndex := 65, descriptorIndex := 62, attributes := #[] }, { accessFlags := 24, nameIndex := 430, descriptorIndex := 62, attributes := #[] }, { accessFlags := 4120, nameIndex := 46, descriptorIndex := 47, attributes := #[] }])
  fields := #[{ name := "HI_BYTE_SHIFT", type := .int, accessFlags := 26, slot := 0, constantValue := 0 }, { name := "LO_BYTE_SHIFT", type := .int, accessFlags := 26, slot := 1, constantValue := 0 }, { name := "MAX_LENGTH", type := .int, accessFlags := 24, slot := 2, constantValue := 0 }, { name := "$assertionsDisabled", type := .boolean, accessFlags := 4120, slot := 3, constantValue := 0 }]
  methods := #[k8m0, k8m1, k8m2, k8m3, k8m4, k8m5, k8m6, k8m7, k8m8, k8m9]
  instanceTypes := #[]
  staticTypes := #[.int, .int, .int, .boolean]
  resolved := Array.replicate 635 none
  statics := some 1 }

def pool9 : Array CpInfo := pool [(1, .methodref 2 3), (0, .class_ 4), (0, .nameAndType 5 6), (0, u "java/lang/Object"), (0, u "<init>"), (0, u "()V"), (0, .fieldref 8 9), (0, .class_ 10), (0, .nameAndType 11 12), (0, u "com/example/aeroslice/aeroslice/SrsDefaults"), (0, u "common"), (0, u "Ljava/lang/String;"), (0, .fieldref 8 14), (0, .nameAndType 15 16), (0, u "byProperty"), (0, u "Ljava/util/Map;"), (0, .fieldref 8 18), (0, .nameAndType 19 20), (0, u "NONE"), (0, u "Lcom/example/aeroslice/aeroslice/SrsDefaults;"), (0, .interfaceMethodref 22 23), (0, .class_ 24), (0, .nameAndType 25 26), (0, u "java/util/Map"), (0, u "of"), (0, u "()Ljava/util/Map;"), (0, .methodref 8 28), (0, .nameAndType 5 29), (0, u "(Ljava/lang/String;Ljava/util/Map;)V"), (0, .interfaceMethodref 22 31), (0, .nameAndType 32 33), (0, u "isEmpty"), (0, u "()Z"), (63, u "(Ljava/lang/String;)Lcom/example/aeroslice/aeroslice/SrsDefaults;"), (1, u "ofEveryProperty"), (0, u "()Ljava/lang/String;")] 6

def k9c0 : Code := { maxStack := 2, maxLocals := 3, code := prog_22_method_1_code, exceptionTable := #[], attributes := #[] }
def k9m0 : Method := { name := "<init>", desc := "(Ljava/lang/String;Ljava/util/Map;)V", sig := { parameters := [(.object "java/lang/String"), (.object "java/util/Map")], returnType := none }, accessFlags := 2, code := some k9c0 }
def k9c1 : Code := { maxStack := 4, maxLocals := 1, code := prog_22_method_2_code, exceptionTable := #[], attributes := #[] }
def k9m1 : Method := { name := "of", desc := "(Ljava/lang/String;)Lcom/example/aeroslice/aeroslice/SrsDefaults;", sig := { parameters := [(.object "java/lang/String")], returnType := some (.object "com/example/aeroslice/aeroslice/SrsDefaults") }, accessFlags := 8, code := some k9c1 }
def k9c2 : Code := { maxStack := 3, maxLocals := 1, code := prog_22_method_3_code, exceptionTable := #[], attributes := #[] }
def k9m2 : Method := { name := "ofEveryProperty", desc := "()Ljava/lang/String;", sig := { parameters := [], returnType := some (.object "java/lang/String") }, accessFlags := 0, code := some k9c2 }
/-- com/example/aeroslice/aeroslice/SrsDefaults -/
def k9 : Class := { plain "com/example/aeroslice/aeroslice/SrsDefaults" (some 0) with
  accessFlags := 48
  interfaces := #[]
  cf := some (fileOf pool9 8 #[] #[{ accessFlags := 2, nameIndex := 5, descriptorIndex := 29, attributes := #[] }, { accessFlags := 8, nameIndex := 25, descriptorIndex := 97, attributes := #[] }, { accessFlags := 0, nameIndex := 99, descriptorIndex := 100, attributes := #[] }] 48 2 #[] #[{ accessFlags := 24, nameIndex := 19, descriptorIndex := 20, attributes := #[] }, { accessFlags := 18, nameIndex := 11, descriptorIndex := 12, attributes := #[] }, { accessFlags := 18, nameIndex := 15, descriptorIndex := 16, attributes := #[] }])
  fields := #[{ name := "NONE", type := (.object "com/example/aeroslice/aeroslice/SrsDefaults"), accessFlags := 24, slot := 0, constantValue := 0 }, { name := "common", type := (.object "java/lang/String"), accessFlags := 18, slot := 0, constantValue := 0 }, { name := "byProperty", type := (.object "java/util/Map"), accessFlags := 18, slot := 1, constantValue := 0 }]
  methods := #[k9m0, k9m1, k9m2]
  instanceTypes := #[(.object "java/lang/String"), (.object "java/util/Map")]
  staticTypes := #[(.object "com/example/aeroslice/aeroslice/SrsDefaults")]
  resolved := Array.replicate 107 none
  statics := some 2 }

def pool10 : Array CpInfo := pool [(2, .class_ 4), (1, u "java/util/Map"), (26, u "()Z"), (4, .class_ 37), (0, u "java/util/Map$Entry"), (43, .fieldref 82 83), (0, .class_ 84), (0, .nameAndType 85 86), (0, u "java/util/ImmutableCollections"), (0, u "EMPTY_MAP"), (0, u "Ljava/util/ImmutableCollections$MapN;"), (6, .class_ 94), (0, u "java/lang/Object"), (10, u "isEmpty"), (2, u "of"), (0, u "()Ljava/util/Map;")] 153

def k10m0 : Method := { name := "isEmpty", desc := "()Z", sig := { parameters := [], returnType := some .boolean }, accessFlags := 1025, code := none }
def k10c1 : Code := { maxStack := 1, maxLocals := 0, code := jdk_72_method_26_code, exceptionTable := #[], attributes := #[] }
def k10m1 : Method := { name := "of", desc := "()Ljava/util/Map;", sig := { parameters := [], returnType := some (.object "java/util/Map") }, accessFlags := 9, code := some k10c1 }
/-- java/util/Map -/
def k10 : Class := { plain "java/util/Map" (some 0) with
  accessFlags := 1537
  interfaces := #[]
  cf := some (fileOf pool10 2 #[.nestMembers #[36]] #[{ accessFlags := 1025, nameIndex := 105, descriptorIndex := 31, attributes := #[] }, { accessFlags := 9, nameIndex := 108, descriptorIndex := 109, attributes := #[] }] 1537 93 #[] #[])
  fields := #[]
  methods := #[k10m0, k10m1]
  instanceTypes := #[]
  staticTypes := #[]
  resolved := Array.replicate 263 none
  statics := none }

def pool11 : Array CpInfo := pool [(2, .class_ 4), (1, u "java/lang/Object"), (0, u "<init>"), (0, u "()V"), (3, .class_ 11), (0, u "java/util/ImmutableCollections$List12"), (0, .class_ 13), (0, u "java/util/ImmutableCollections$ListN"), (3, u "Z"), (29, .class_ 49), (1, u "java/util/ImmutableCollections"), (0, u "$assertionsDisabled"), (5, u "[Ljava/lang/Object;"), (5, u "EMPTY_LIST"), (0, u "Ljava/util/ImmutableCollections$ListN;"), (8, u "EMPTY_LIST_NULLS"), (22, u "SALT32L"), (0, u "J"), (2, u "REVERSE"), (6, u "archivedObjects"), (2, u "EMPTY"), (0, u "Ljava/lang/Object;"), (0, .class_ 112), (0, u "java/util/ImmutableCollections$SetN"), (5, u "EMPTY_SET"), (0, u "Ljava/util/ImmutableCollections$SetN;"), (0, .class_ 121), (0, u "java/util/ImmutableCollections$MapN"), (3, u "EMPTY_MAP"), (0, u "Ljava/util/ImmutableCollections$MapN;"), (4, u "EXPAND_FACTOR"), (0, u "I"), (36, .class_ 170), (0, u "java/util/ImmutableCollections$MapN$MapNIterator"), (0, .class_ 172), (0, u "java/util/ImmutableCollections$MapN$1"), (0, .class_ 174), (0, u "java/util/ImmutableCollections$Map1"), (0, .class_ 176), (0, u "java/util/ImmutableCollections$AbstractImmutableMap"), (0, .class_ 178), (0, u "java/util/ImmutableCollections$SetN$SetNIterator"), (0, .class_ 180), (0, u "java/util/ImmutableCollections$Set12"), (0, .class_ 182), (0, u "java/util/ImmutableCollections$Set12$1"), (0, .class_ 184), (0, u "java/util/ImmutableCollections$AbstractImmutableSet"), (0, .class_ 186), (0, u "java/util/ImmutableCollections$SubList"), (0, .class_ 188), (0, u "java/util/ImmutableCollections$ListItr"), (0, .class_ 190), (0, u "java/util/ImmutableCollections$AbstractImmutableList"), (0, .class_ 192), (0, u "java/util/ImmutableCollections$AbstractImmutableCollection"), (0, .class_ 194), (0, u "java/util/ImmutableCollections$Access"), (0, .class_ 196), (0, u "java/util/ImmutableCollections$Access$1")] 16

def k11m0 : Method := { name := "<init>", desc := "()V", sig := { parameters := [], returnType := none }, accessFlags := 2, code := none }
/-- java/util/ImmutableCollections -/
def k11 : Class := { plain "java/util/ImmutableCollections" (some 0) with
  accessFlags := 32
  interfaces := #[]
  cf := some (fileOf pool11 47 #[.nestMembers #[120, 169, 171, 173, 175, 111, 177, 179, 181, 183, 12, 10, 185, 187, 189, 191, 193, 195]] #[{ accessFlags := 2, nameIndex := 5, descriptorIndex := 6, attributes := #[] }] 32 2 #[] #[{ accessFlags := 26, nameIndex := 95, descriptorIndex := 96, attributes := #[] }, { accessFlags := 26, nameIndex := 99, descriptorIndex := 17, attributes := #[] }, { accessFlags := 10, nameIndex := 106, descriptorIndex := 56, attributes := #[] }, { accessFlags := 26, nameIndex := 109, descriptorIndex := 110, attributes := #[] }, { accessFlags := 24, nameIndex := 62, descriptorIndex := 63, attributes := #[] }, { accessFlags := 24, nameIndex := 72, descriptorIndex := 63, attributes := #[] }, { accessFlags := 24, nameIndex := 118, descriptorIndex := 119, attributes := #[] }, { accessFlags := 24, nameIndex := 125, descriptorIndex := 126, attributes := #[] }, { accessFlags := 24, nameIndex := 131, descriptorIndex := 132, attributes := #[] }, { accessFlags := 4120, nameIndex := 50, descriptorIndex := 17, attributes := #[] }])
  fields := #[{ name := "SALT32L", type := .long, accessFlags := 26, slot := 0, constantValue := 0 }, { name := "REVERSE", type := .boolean, accessFlags := 26, slot := 1, constantValue := 0 }, { name := "archivedObjects", type := (.array (.object "java/lang/Object")), accessFlags := 10, slot := 2, constantValue := 0 }, { name := "EMPTY", type := (.object "java/lang/Object"), accessFlags := 26, slot := 3, constantValue := 0 }, { name := "EMPTY_LIST", type := (.object "java/util/ImmutableCollections$ListN"), accessFlags := 24, slot := 4, constantValue := 0 }, { name := "EMPTY_LIST_NULLS", type := (.object "java/util/ImmutableCollections$ListN"), accessFlags := 24, slot := 5, constantValue := 0 }, { name := "EMPTY_SET", type := (.object "java/util/ImmutableCollections$SetN"), accessFlags := 24, slot := 6, constantValue := 0 }, { name := "EMPTY_MAP", type := (.object "java/util/ImmutableCollections$MapN"), accessFlags := 24, slot := 7, constantValue := 0 }, { name := "EXPAND_FACTOR", type := .int, accessFlags := 24, slot := 8, constantValue := 0 }, { name := "$assertionsDisabled", type := .boolean, accessFlags := 4120, slot := 9, constantValue := 0 }]
  methods := #[k11m0]
  instanceTypes := #[]
  staticTypes := #[.long, .boolean, (.array (.object "java/lang/Object")), (.object "java/lang/Object"), (.object "java/util/ImmutableCollections$ListN"), (.object "java/util/ImmutableCollections$ListN"), (.object "java/util/ImmutableCollections$SetN"), (.object "java/util/ImmutableCollections$MapN"), .int, .boolean]
  resolved := Array.replicate 213 none
  statics := some 3 }

def pool12 : Array CpInfo := pool [(2, .class_ 4), (1, u "java/lang/Object"), (0, u "<init>"), (0, u "()V"), (1, .class_ 10), (1, u "java/util/AbstractMap"), (42, .class_ 54), (0, u "java/util/Map"), (9, u "keySet"), (0, u "Ljava/util/Set;"), (0, .class_ 67), (0, u "java/util/AbstractMap$1"), (5, u "values"), (0, u "Ljava/util/Collection;"), (0, .class_ 76), (0, u "java/util/AbstractMap$2"), (104, .class_ 182), (0, u "java/util/AbstractMap$ViewCollection"), (0, .class_ 184), (0, u "java/util/AbstractMap$SimpleImmutableEntry"), (0, .class_ 186), (0, u "java/util/AbstractMap$SimpleEntry"), (0, .class_ 188), (0, u "java/util/AbstractMap$2$1"), (0, .class_ 190), (0, u "java/util/AbstractMap$1$1")] 5

def k12m0 : Method := { name := "<init>", desc := "()V", sig := { parameters := [], returnType := none }, accessFlags := 4, code := none }
/-- java/util/AbstractMap -/
def k12 : Class := { plain "java/util/AbstractMap" (some 0) with
  accessFlags := 1057
  interfaces := #[10]
  cf := some (fileOf pool12 8 #[.nestMembers #[181, 183, 185, 75, 187, 66, 189]] #[{ accessFlags := 4, nameIndex := 5, descriptorIndex := 6, attributes := #[] }] 1057 2 #[53] #[{ accessFlags := 128, nameIndex := 64, descriptorIndex := 65, attributes := #[] }, { accessFlags := 128, nameIndex := 73, descriptorIndex := 74, attributes := #[] }])
  fields := #[{ name := "keySet", type := (.object "java/util/Set"), accessFlags := 128, slot := 0, constantValue := 0 }, { name := "values", type := (.object "java/util/Collection"), accessFlags := 128, slot := 1, constantValue := 0 }]
  methods := #[k12m0]
  instanceTypes := #[(.object "java/util/Set"), (.object "java/util/Collection")]
  staticTypes := #[]
  resolved := Array.replicate 196 none
  statics := none }

def pool13 : Array CpInfo := pool [(2, .class_ 4), (1, u "java/util/AbstractMap"), (0, u "<init>"), (0, u "()V"), (1, .class_ 10), (1, u "java/util/ImmutableCollections"), (3, .class_ 16), (1, u "java/util/ImmutableCollections$AbstractImmutableMap"), (2, .class_ 20), (0, u "java/io/Serializable")] 66

def k13m0 : Method := { name := "<init>", desc := "()V", sig := { parameters := [], returnType := none }, accessFlags := 0, code := none }
/-- java/util/ImmutableCollections$AbstractImmutableMap -/
def k13 : Class := { plain "java/util/ImmutableCollections$AbstractImmutableMap" (some 12) with
  accessFlags := 1056
  interfaces := #[2]
  cf := some (fileOf pool13 14 #[.nestHost 8] #[{ accessFlags := 0, nameIndex := 5, descriptorIndex := 6, attributes := #[] }] 1056 2 #[19] #[])
  fields := #[]
  methods := #[k13m0]
  instanceTypes := #[(.object "java/util/Set"), (.object "java/util/Collection")]
  staticTypes := #[]
  resolved := Array.replicate 87 none
  statics := none }

def pool14 : Array CpInfo := pool [(1, .class_ 2), (0, u "java/util/ImmutableCollections"), (1, .class_ 6), (1, u "java/util/ImmutableCollections$AbstractImmutableMap"), (9, .fieldref 17 18), (0, .class_ 19), (0, .nameAndType 20 21), (0, u "java/util/ImmutableCollections$MapN"), (0, u "size"), (0, u "I"), (4, u "table"), (0, u "[Ljava/lang/Object;"), (87, u "isEmpty"), (0, u "()Z")] 32

def k14c0 : Code := { maxStack := 1, maxLocals := 1, code := jdk_2605_method_7_code, exceptionTable := #[], attributes := #[] }
def k14m0 : Method := { name := "isEmpty", desc := "()Z", sig := { parameters := [], returnType := some .boolean }, accessFlags := 1, code := some k14c0 }
/-- java/util/ImmutableCollections$MapN -/
def k14 : Class := { plain "java/util/ImmutableCollections$MapN" (some 13) with
  accessFlags := 48
  interfaces := #[]
  cf := some (fileOf pool14 17 #[.nestHost 1] #[{ accessFlags := 1, nameIndex := 115, descriptorIndex := 116, attributes := #[] }] 48 4 #[] #[{ accessFlags := 16, nameIndex := 26, descriptorIndex := 27, attributes := #[] }, { accessFlags := 16, nameIndex := 20, descriptorIndex := 21, attributes := #[] }])
  fields := #[{ name := "table", type := (.array (.object "java/lang/Object")), accessFlags := 16, slot := 2, constantValue := 0 }, { name := "size", type := .int, accessFlags := 16, slot := 3, constantValue := 0 }]
  methods := #[k14m0]
  instanceTypes := #[(.object "java/util/Set"), (.object "java/util/Collection"), (.array (.object "java/lang/Object")), .int]
  staticTypes := #[]
  resolved := Array.replicate 149 none
  statics := none }

def pool15 : Array CpInfo := pool [(4, .class_ 6), (1, u "java/lang/Object"), (0, u "<init>"), (0, u "()V"), (5, .class_ 16), (1, u "java/lang/StringLatin1"), (73, u "canEncode"), (14, u "(C)Z"), (15, u "$assertionsDisabled"), (0, u "Z"), (98, .class_ 223), (1, u "java/lang/StringLatin1$LinesSpliterator"), (156, u "toBytes"), (1, u "(C)[B"), (7, .class_ 391), (0, u "java/lang/StringLatin1$CharsSpliterator")] 3

def k15m0 : Method := { name := "<init>", desc := "()V", sig := { parameters := [], returnType := none }, accessFlags := 0, code := none }
def k15c1 : Code := { maxStack := 2, maxLocals := 1, code := jdk_43_method_3_code, exceptionTable := #[], attributes := #[] }
def k15m1 : Method := { name := "canEncode", desc := "(C)Z", sig := { parameters := [.char], returnType := some .boolean }, accessFlags := 9, code := some k15c1 }
def k15c2 : Code := { maxStack := 4, maxLocals := 1, code := jdk_43_method_46_code, exceptionTable := #[], attributes := #[] }
def k15m2 : Method := { name := "toBytes", desc := "(C)[B", sig := { parameters := [.char], returnType := some (.array .byte) }, accessFlags := 9, code := some k15c2 }
/-- java/lang/StringLatin1 -/
def k15 : Class := { plain "java/lang/StringLatin1" (some 0) with
  accessFlags := 48
  interfaces := #[]
  cf := some (fileOf pool15 14 #[.nestMembers #[390, 221]] #[{ accessFlags := 0, nameIndex := 7, descriptorIndex := 8, attributes := #[] }, { accessFlags := 9, nameIndex := 90, descriptorIndex := 105, attributes := #[] }, { accessFlags := 9, nameIndex := 380, descriptorIndex := 382, attributes := #[] }] 48 4 #[] #[{ accessFlags := 4120, nameIndex := 121, descriptorIndex := 122, attributes := #[] }])
  fields := #[{ name := "$assertionsDisabled", type := .boolean, accessFlags := 4120, slot := 0, constantValue := 0 }]
  methods := #[k15m0, k15m1, k15m2]
  instanceTypes := #[]
  staticTypes := #[.boolean]
  resolved := Array.replicate 395 none
  statics := none }

def pool16 : Array CpInfo := pool [(2, .class_ 4), (1, u "java/lang/Object"), (0, u "<init>"), (0, u "()V"), (17, .class_ 26), (1, u "jdk/internal/util/Preconditions"), (28, .class_ 56), (0, u "jdk/internal/util/Preconditions$4"), (57, .class_ 115), (0, u "jdk/internal/util/Preconditions$1"), (7, u "SIOOBE_FORMATTER"), (0, u "Ljava/util/function/BiFunction;"), (0, .class_ 126), (0, u "jdk/internal/util/Preconditions$2"), (3, u "AIOOBE_FORMATTER"), (0, .class_ 132), (0, u "jdk/internal/util/Preconditions$3"), (3, u "IOOBE_FORMATTER")] 57

def k16m0 : Method := { name := "<init>", desc := "()V", sig := { parameters := [], returnType := none }, accessFlags := 1, code := none }
/-- jdk/internal/util/Preconditions -/
def k16 : Class := { plain "jdk/internal/util/Preconditions" (some 0) with
  accessFlags := 33
  interfaces := #[]
  cf := some (fileOf pool16 24 #[.nestMembers #[55, 131, 125, 114]] #[{ accessFlags := 1, nameIndex := 5, descriptorIndex := 6, attributes := #[] }] 33 2 #[] #[{ accessFlags := 25, nameIndex := 123, descriptorIndex := 124, attributes := #[] }, { accessFlags := 25, nameIndex := 130, descriptorIndex := 124, attributes := #[] }, { accessFlags := 25, nameIndex := 136, descriptorIndex := 124, attributes := #[] }])
  fields := #[{ name := "SIOOBE_FORMATTER", type := (.object "java/util/function/BiFunction"), accessFlags := 25, slot := 0, constantValue := 0 }, { name := "AIOOBE_FORMATTER", type := (.object "java/util/function/BiFunction"), accessFlags := 25, slot := 1, constantValue := 0 }, { name := "IOOBE_FORMATTER", type := (.object "java/util/function/BiFunction"), accessFlags := 25, slot := 2, constantValue := 0 }]
  methods := #[k16m0]
  instanceTypes := #[]
  staticTypes := #[(.object "java/util/function/BiFunction"), (.object "java/util/function/BiFunction"), (.object "java/util/function/BiFunction")]
  resolved := Array.replicate 194 none
  statics := some 4 }

def pool17 : Array CpInfo := pool [(9, u "<init>"), (6, .class_ 18), (1, u "java/lang/Object"), (0, u "()V"), (1, .class_ 23), (1, u "jdk/internal/util/ArraysSupport"), (0, u "LOG2_ARRAY_LONG_INDEX_SCALE"), (0, u "I"), (2, u "U"), (0, u "Ljdk/internal/misc/Unsafe;"), (8, u "BIG_ENDIAN"), (0, u "Z"), (8, u "LOG2_BYTE_BIT_SIZE"), (4, u "LOG2_ARRAY_INT_INDEX_SCALE"), (54, u "JLA"), (0, u "Ljdk/internal/access/JavaLangAccess;"), (11, u "LOG2_ARRAY_BOOLEAN_INDEX_SCALE"), (9, u "LOG2_ARRAY_BYTE_INDEX_SCALE"), (5, u "LOG2_ARRAY_CHAR_INDEX_SCALE"), (5, u "LOG2_ARRAY_SHORT_INDEX_SCALE"), (18, u "LOG2_ARRAY_FLOAT_INDEX_SCALE"), (24, u "LOG2_ARRAY_DOUBLE_INDEX_SCALE"), (89, u "T_BOOLEAN"), (2, u "T_CHAR"), (1, u "T_FLOAT"), (1, u "T_DOUBLE"), (1, u "T_BYTE"), (1, u "T_SHORT"), (1, u "T_INT"), (1, u "T_LONG"), (1, u "SOFT_MAX_ARRAY_LENGTH")] 83

def k17m0 : Method := { name := "<init>", desc := "()V", sig := { parameters := [], returnType := none }, accessFlags := 2, code := none }
/-- jdk/internal/util/ArraysSupport -/
def k17 : Class := { plain "jdk/internal/util/ArraysSupport" (some 0) with
  accessFlags := 33
  interfaces := #[]
  cf := some (fileOf pool17 21 #[] #[{ accessFlags := 2, nameIndex := 9, descriptorIndex := 19, attributes := #[] }] 33 16 #[] #[{ accessFlags := 24, nameIndex := 28, descriptorIndex := 29, attributes := #[] }, { accessFlags := 26, nameIndex := 38, descriptorIndex := 39, attributes := #[] }, { accessFlags := 25, nameIndex := 121, descriptorIndex := 25, attributes := #[] }, { accessFlags := 25, nameIndex := 131, descriptorIndex := 25, attributes := #[] }, { accessFlags := 25, nameIndex := 137, descriptorIndex := 25, attributes := #[] }, { accessFlags := 25, nameIndex := 143, descriptorIndex := 25, attributes := #[] }, { accessFlags := 25, nameIndex := 53, descriptorIndex := 25, attributes := #[] }, { accessFlags := 25, nameIndex := 24, descriptorIndex := 25, attributes := #[] }, { accessFlags := 25, nameIndex := 162, descriptorIndex := 25, attributes := #[] }, { accessFlags := 25, nameIndex := 187, descriptorIndex := 25, attributes := #[] }, { accessFlags := 26, nameIndex := 48, descriptorIndex := 25, attributes := #[] }, { accessFlags := 25, nameIndex := 277, descriptorIndex := 25, attributes := #[] }, { accessFlags := 25, nameIndex := 280, descriptorIndex := 25, attributes := #[] }, { accessFlags := 25, nameIndex := 282, descriptorIndex := 25, attributes := #[] }, { accessFlags := 25, nameIndex := 284, descriptorIndex := 25, attributes := #[] }, { accessFlags := 25, nameIndex := 286, descriptorIndex := 25, attributes := #[] }, { accessFlags := 25, nameIndex := 288, descriptorIndex := 25, attributes := #[] }, { accessFlags := 25, nameIndex := 290, descriptorIndex := 25, attributes := #[] }, { accessFlags := 25, nameIndex := 292, descriptorIndex := 25, attributes := #[] }, { accessFlags := 26, nameIndex := 108, descriptorIndex := 109, attributes := #[] }, { accessFlags := 25, nameIndex := 294, descriptorIndex := 25, attributes := #[] }])
  fields := #[{ name := "U", type := (.object "jdk/internal/misc/Unsafe"), accessFlags := 24, slot := 0, constantValue := 0 }, { name := "BIG_ENDIAN", type := .boolean, accessFlags := 26, slot := 1, constantValue := 0 }, { name := "LOG2_ARRAY_BOOLEAN_INDEX_SCALE", type := .int, accessFlags := 25, slot := 2, constantValue := 0 }, { name := "LOG2_ARRAY_BYTE_INDEX_SCALE", type := .int, accessFlags := 25, slot := 3, constantValue := 0 }, { name := "LOG2_ARRAY_CHAR_INDEX_SCALE", type := .int, accessFlags := 25, slot := 4, constantValue := 0 }, { name := "LOG2_ARRAY_SHORT_INDEX_SCALE", type := .int, accessFlags := 25, slot := 5, constantValue := 0 }, { name := "LOG2_ARRAY_INT_INDEX_SCALE", type := .int, accessFlags := 25, slot := 6, constantValue := 0 }, { name := "LOG2_ARRAY_LONG_INDEX_SCALE", type := .int, accessFlags := 25, slot := 7, constantValue := 0 }, { name := "LOG2_ARRAY_FLOAT_INDEX_SCALE", type := .int, accessFlags := 25, slot := 8, constantValue := 0 }, { name := "LOG2_ARRAY_DOUBLE_INDEX_SCALE", type := .int, accessFlags := 25, slot := 9, constantValue := 0 }, { name := "LOG2_BYTE_BIT_SIZE", type := .int, accessFlags := 26, slot := 10, constantValue := 0 }, { name := "T_BOOLEAN", type := .int, accessFlags := 25, slot := 11, constantValue := 0 }, { name := "T_CHAR", type := .int, accessFlags := 25, slot := 12, constantValue := 0 }, { name := "T_FLOAT", type := .int, accessFlags := 25, slot := 13, constantValue := 0 }, { name := "T_DOUBLE", type := .int, accessFlags := 25, slot := 14, constantValue := 0 }, { name := "T_BYTE", type := .int, accessFlags := 25, slot := 15, constantValue := 0 }, { name := "T_SHORT", type := .int, accessFlags := 25, slot := 16, constantValue := 0 }, { name := "T_INT", type := .int, accessFlags := 25, slot := 17, constantValue := 0 }, { name := "T_LONG", type := .int, accessFlags := 25, slot := 18, constantValue := 0 }, { name := "JLA", type := (.object "jdk/internal/access/JavaLangAccess"), accessFlags := 26, slot := 19, constantValue := 0 }, { name := "SOFT_MAX_ARRAY_LENGTH", type := .int, accessFlags := 25, slot := 20, constantValue := 0 }]
  methods := #[k17m0]
  instanceTypes := #[]
  staticTypes := #[(.object "jdk/internal/misc/Unsafe"), .boolean, .int, .int, .int, .int, .int, .int, .int, .int, .int, .int, .int, .int, .int, .int, .int, .int, .int, (.object "jdk/internal/access/JavaLangAccess"), .int]
  resolved := Array.replicate 378 none
  statics := none }

def pool18 : Array CpInfo := pool [(1, u "java/lang/Cloneable"), (0, .class_ 1), (0, u "java/lang/Object"), (0, .class_ 3)] 3

/-- java/lang/Cloneable -/
def k18 : Class := { plain "java/lang/Cloneable" (some 0) with
  accessFlags := 1537
  interfaces := #[]
  cf := some (fileOf pool18 2 #[] #[] 1537 4 #[] #[])
  fields := #[]
  methods := #[]
  instanceTypes := #[]
  staticTypes := #[]
  resolved := Array.replicate 8 none
  statics := none }

/-- the primitive byte -/
def k19 : Class := { plain "byte" none with kind := .primitive 'B', accessFlags := 0x411 }
/-- [B -/
def k20 : Class := { plain "[B" (some 0) with kind := .array 19 .byte, interfaces := #[18, 2], accessFlags := 1041 }

/-- the primitive char -/
def k21 : Class := { plain "char" none with kind := .primitive 'C', accessFlags := 0x411 }
/-- [C -/
def k22 : Class := { plain "[C" (some 0) with kind := .array 21 .char, interfaces := #[18, 2], accessFlags := 1041 }

/-- the primitive int -/
def k23 : Class := { plain "int" none with kind := .primitive 'I', accessFlags := 0x411 }
/-- [I -/
def k24 : Class := { plain "[I" (some 0) with kind := .array 23 .int, interfaces := #[18, 2], accessFlags := 1041 }

/-- [Ljava/lang/Object; -/
def k25 : Class := { plain "[Ljava/lang/Object;" (some 0) with kind := .array 0 (.object "java/lang/Object"), interfaces := #[18, 2], accessFlags := 1041 }

def heap : Heap := #[{ cls := 7, slots := #[.long 0, .int 1, .null, .int 0, .null, .int 0, .int 0], vm := .statics 7 },
  { cls := 8, slots := #[.int 0, .int 8, .int 0, .int 1], vm := .statics 8 },
  { cls := 9, slots := #[.ref 6], vm := .statics 9 },
  { cls := 11, slots := #[.long 0, .int 0, .null, .null, .null, .null, .null, .ref 7, .int 0, .int 0], vm := .statics 11 },
  { cls := 16, slots := #[.null, .null, .null], vm := .statics 16 },
  { cls := 25, slots := #[], vm := .none },
  { cls := 9, slots := #[.null, .ref 7], vm := .none },
  { cls := 14, slots := #[.null, .null, .ref 5, .int 0], vm := .none }]
def classes : Array Class := #[k0, k1, k2, k3, k4, k5, k6, k7, k8, k9, k10, k11, k12, k13, k14, k15, k16, k17, k18, k19, k20, k21, k22, k23, k24, k25]
def interned : List (Array UInt16 × Addr) := []
def slotsUsed : Nat := 31
def theMethod : MethodId := ⟨1, 2⟩
def args0 : Array Value := #[.int 0, .int 2, .int 65, .int 66, .int 67]
def aboutOver (below : List Frame) : State where
  vm := { classes := classes, interned := interned.toArray }
  heap := heap
  slotsUsed := slotsUsed
  threads := #[{ frames := .invoking theMethod args0 :: below }]
def below0 : List Frame := [.native { method := ⟨0, 0⟩, args := #[] }]
def about1 : State := aboutOver below0
def p0 : Program := .bare "" "" ""
def e0 : Env := launch0.env 0 0 0
theorem w_frames : about1.frames = Frame.invoking theMethod args0 :: below0 := rfl
set_option maxRecDepth 65536 in
theorem w_args : argsFit about1.vm theMethod args0 = true := by decide +kernel
set_option maxRecDepth 65536 in
theorem w_heap : heapFits about1 = true := by decide +kernel
set_option maxRecDepth 65536 in
theorem w_runnable : about1.curStatus? = some .runnable := by decide +kernel
set_option maxRecDepth 65536 in
theorem w_alone : about1.alone = true := by decide +kernel
set_option maxRecDepth 65536 in
theorem w_named : about1.methodNamed? x = some theMethod := by decide +kernel
set_option maxRecDepth 65536 in
theorem w_hears : about1.hears theMethod below0 = true := by decide +kernel
set_option maxRecDepth 65536 in
theorem w_ripe : about1.ripe theMethod args0 below0 = true := by decide +kernel
theorem w_running : about1.status = .running := rfl
set_option maxRecDepth 65536 in
theorem w_room : about1.hasRoom e0.platform room_1 = true :=
  launch0.hasRoom_least _ room_1 (by decide +kernel) (by decide +kernel) (by decide +kernel) (by decide +kernel) (by decide +kernel) (by decide +kernel)
theorem allAtoms_all (ts : List Jvm.Cond) (a : Array Jvm.Value) (st : Jvm.State) : (allAtoms ts).before a st = ts.all (fun c => c.before a st) := by
  induction ts with
  | nil => rfl
  | cons c t ih =>
    show (Jvm.Cond.and c (allAtoms t)).before a st = _
    rw [Jvm.Cond.before_and, ih, List.all_cons]
def words1 : List Jvm.Cond := Jvm.Cond.code x code maxLocals ret :: tables_1
/-- a 'code' word, met by the world's own term for the bytes: nothing is compared byte by byte -/
theorem code_word {y : MethodName} {bytes : ByteArray} {mx : Nat} {rt : Option FieldType} {a : Array Value} {s : State} {m : MethodId} {meth : Method} {c : Code} (h1 : s.methodNamed? y = some m) (h2 : s.vm.method? m = some meth) (h3 : meth.code = some c) (h4 : c.code = bytes)
    (h5 : (c.maxLocals == mx && c.exceptionTable.isEmpty && decide (c.maxStack ≤ mostOperands) && decide (meth.sig.returnType = rt) && !meth.locks && decide (parseMethodDescriptor y.desc = some meth.sig)) = true) : (Jvm.Cond.code y bytes mx rt).before a s = true := by
  simp only [Bool.and_eq_true, beq_iff_eq, Bool.not_eq_true', decide_eq_true_eq] at h5
  obtain ⟨⟨⟨⟨⟨g1, g2⟩, g3⟩, g4⟩, g5⟩, g6⟩ := h5
  simp [Cond.before, Cond.holds, Cond.value, h1, h2, h3, h4, g1, g2, g3, g4, g5, g6]
def isCode : Jvm.Cond → Bool
  | .code _ _ _ _ => true
  | _ => false
theorem all_split {L : List Jvm.Cond} {P : Jvm.Cond → Bool} (h1 : L.all (fun c => isCode c || P c) = true) (h2 : ∀ c ∈ L.filter isCode, P c = true) : L.all P = true := by
  refine List.all_eq_true.mpr fun c hc => ?_
  have h := List.all_eq_true.mp h1 c hc
  rcases Bool.eq_false_or_eq_true (isCode c) with hi | hi
  · exact h2 c (List.mem_filter.mpr ⟨hc, hi⟩)
  · simpa [hi] using h
set_option maxRecDepth 65536 in
theorem w_c0 : (Jvm.Cond.code x code maxLocals ret).before args0 about1 = true := code_word (m := ⟨1, 2⟩) (meth := k1m2) (c := k1c2) (by decide +kernel) rfl rfl rfl (by decide +kernel)
set_option maxRecDepth 65536 in
theorem w_c1 : (Jvm.Cond.code ({ cls := "com/example/aeroslice/aeroslice/SrsDefaultsOfPinLaw", name := "draw", desc := "(ICCC)Ljava/lang/String;" } : Jvm.MethodName) method_2_code (4 : Nat) (Option.some (Jvm.ClassFile.FieldType.object "java/lang/String"))).before args0 about1 = true := code_word (m := ⟨1, 1⟩) (meth := k1m1) (c := k1c1) (by decide +kernel) rfl rfl rfl (by decide +kernel)
set_option maxRecDepth 65536 in
theorem w_c2 : (Jvm.Cond.code ({ cls := "java/lang/String", name := "<init>", desc := "([C)V" } : Jvm.MethodName) jdk_42_method_3_code (2 : Nat) (Option.none : Option Jvm.ClassFile.FieldType)).before args0 about1 = true := code_word (m := ⟨7, 1⟩) (meth := k7m1) (c := k7c1) (by decide +kernel) rfl rfl rfl (by decide +kernel)
set_option maxRecDepth 65536 in
theorem w_c3 : (Jvm.Cond.code ({ cls := "java/lang/String", name := "<init>", desc := "([CIILjava/lang/Void;)V" } : Jvm.MethodName) jdk_42_method_149_code (6 : Nat) (Option.none : Option Jvm.ClassFile.FieldType)).before args0 about1 = true := code_word (m := ⟨7, 4⟩) (meth := k7m4) (c := k7c4) (by decide +kernel) rfl rfl rfl (by decide +kernel)
set_option maxRecDepth 65536 in
theorem w_c4 : (Jvm.Cond.code ({ cls := "java/lang/Object", name := "<init>", desc := "()V" } : Jvm.MethodName) object_method_1_code (1 : Nat) (Option.none : Option Jvm.ClassFile.FieldType)).before args0 about1 = true := code_word (m := ⟨0, 0⟩) (meth := k0m0) (c := k0c0) (by decide +kernel) rfl rfl rfl (by decide +kernel)
set_option maxRecDepth 65536 in
theorem w_c5 : (Jvm.Cond.code ({ cls := "java/lang/StringUTF16", name := "compress", desc := "([CII)[B" } : Jvm.MethodName) jdk_52_method_16_code (6 : Nat) (Option.some (Jvm.ClassFile.FieldType.array Jvm.ClassFile.FieldType.byte))).before args0 about1 = true := code_word (m := ⟨8, 7⟩) (meth := k8m7) (c := k8c7) (by decide +kernel) rfl rfl rfl (by decide +kernel)
set_option maxRecDepth 65536 in
theorem w_c6 : (Jvm.Cond.code ({ cls := "java/lang/StringUTF16", name := "compress", desc := "([CI[BII)I" } : Jvm.MethodName) jdk_52_method_21_code (7 : Nat) (Option.some Jvm.ClassFile.FieldType.int)).before args0 about1 = true := code_word (m := ⟨8, 8⟩) (meth := k8m8) (c := k8c8) (by decide +kernel) rfl rfl rfl (by decide +kernel)
set_option maxRecDepth 65536 in
theorem w_c7 : (Jvm.Cond.code ({ cls := "java/lang/StringUTF16", name := "coderFromArrayLen", desc := "([BI)B" } : Jvm.MethodName) jdk_52_method_15_code (2 : Nat) (Option.some Jvm.ClassFile.FieldType.byte)).before args0 about1 = true := code_word (m := ⟨8, 6⟩) (meth := k8m6) (c := k8c6) (by decide +kernel) rfl rfl rfl (by decide +kernel)
set_option maxRecDepth 65536 in
theorem w_c8 : (Jvm.Cond.code ({ cls := "com/example/aeroslice/aeroslice/SrsDefaults", name := "of", desc := "(Ljava/lang/String;)Lcom/example/aeroslice/aeroslice/SrsDefaults;" } : Jvm.MethodName) prog_22_method_2_code (1 : Nat) (Option.some (Jvm.ClassFile.FieldType.object "com/example/aeroslice/aeroslice/SrsDefaults"))).before args0 about1 = true := code_word (m := ⟨9, 1⟩) (meth := k9m1) (c := k9c1) (by decide +kernel) rfl rfl rfl (by decide +kernel)
set_option maxRecDepth 65536 in
theorem w_c9 : (Jvm.Cond.code ({ cls := "java/util/Map", name := "of", desc := "()Ljava/util/Map;" } : Jvm.MethodName) jdk_72_method_26_code (0 : Nat) (Option.some (Jvm.ClassFile.FieldType.object "java/util/Map"))).before args0 about1 = true := code_word (m := ⟨10, 1⟩) (meth := k10m1) (c := k10c1) (by decide +kernel) rfl rfl rfl (by decide +kernel)
set_option maxRecDepth 65536 in
theorem w_c10 : (Jvm.Cond.code ({ cls := "com/example/aeroslice/aeroslice/SrsDefaults", name := "<init>", desc := "(Ljava/lang/String;Ljava/util/Map;)V" } : Jvm.MethodName) prog_22_method_1_code (3 : Nat) (Option.none : Option Jvm.ClassFile.FieldType)).before args0 about1 = true := code_word (m := ⟨9, 0⟩) (meth := k9m0) (c := k9c0) (by decide +kernel) rfl rfl rfl (by decide +kernel)
set_option maxRecDepth 65536 in
theorem w_c11 : (Jvm.Cond.code ({ cls := "com/example/aeroslice/aeroslice/SrsDefaults", name := "ofEveryProperty", desc := "()Ljava/lang/String;" } : Jvm.MethodName) prog_22_method_3_code (1 : Nat) (Option.some (Jvm.ClassFile.FieldType.object "java/lang/String"))).before args0 about1 = true := code_word (m := ⟨9, 2⟩) (meth := k9m2) (c := k9c2) (by decide +kernel) rfl rfl rfl (by decide +kernel)
set_option maxRecDepth 65536 in
theorem w_c12 : (Jvm.Cond.code ({ cls := "java/util/ImmutableCollections$MapN", name := "isEmpty", desc := "()Z" } : Jvm.MethodName) jdk_2605_method_7_code (1 : Nat) (Option.some Jvm.ClassFile.FieldType.boolean)).before args0 about1 = true := code_word (m := ⟨14, 0⟩) (meth := k14m0) (c := k14c0) (by decide +kernel) rfl rfl rfl (by decide +kernel)
set_option maxRecDepth 65536 in
theorem w_c13 : (Jvm.Cond.code ({ cls := "java/lang/String", name := "equals", desc := "(Ljava/lang/Object;)Z" } : Jvm.MethodName) jdk_42_method_66_code (3 : Nat) (Option.some Jvm.ClassFile.FieldType.boolean)).before args0 about1 = true := code_word (m := ⟨7, 2⟩) (meth := k7m2) (c := k7c2) (by decide +kernel) rfl rfl rfl (by decide +kernel)
set_option maxRecDepth 65536 in
theorem w_c14 : (Jvm.Cond.code ({ cls := "java/lang/StringUTF16", name := "toBytes", desc := "([CII)[B" } : Jvm.MethodName) jdk_52_method_14_code (5 : Nat) (Option.some (Jvm.ClassFile.FieldType.array Jvm.ClassFile.FieldType.byte))).before args0 about1 = true := code_word (m := ⟨8, 5⟩) (meth := k8m5) (c := k8c5) (by decide +kernel) rfl rfl rfl (by decide +kernel)
set_option maxRecDepth 65536 in
theorem w_c15 : (Jvm.Cond.code ({ cls := "java/lang/StringUTF16", name := "newBytesFor", desc := "(I)[B" } : Jvm.MethodName) jdk_52_method_2_code (1 : Nat) (Option.some (Jvm.ClassFile.FieldType.array Jvm.ClassFile.FieldType.byte))).before args0 about1 = true := code_word (m := ⟨8, 1⟩) (meth := k8m1) (c := k8c1) (by decide +kernel) rfl rfl rfl (by decide +kernel)
set_option maxRecDepth 65536 in
theorem w_c16 : (Jvm.Cond.code ({ cls := "java/lang/StringUTF16", name := "newBytesLength", desc := "(I)I" } : Jvm.MethodName) jdk_52_method_3_code (1 : Nat) (Option.some Jvm.ClassFile.FieldType.int)).before args0 about1 = true := code_word (m := ⟨8, 2⟩) (meth := k8m2) (c := k8c2) (by decide +kernel) rfl rfl rfl (by decide +kernel)
set_option maxRecDepth 65536 in
theorem w_c17 : (Jvm.Cond.code ({ cls := "java/lang/StringUTF16", name := "putChar", desc := "([BII)V" } : Jvm.MethodName) jdk_52_method_4_code (3 : Nat) (Option.none : Option Jvm.ClassFile.FieldType)).before args0 about1 = true := code_word (m := ⟨8, 3⟩) (meth := k8m3) (c := k8c3) (by decide +kernel) rfl rfl rfl (by decide +kernel)
set_option maxRecDepth 65536 in
theorem w_c18 : (Jvm.Cond.code ({ cls := "java/lang/StringUTF16", name := "getChar", desc := "([BI)C" } : Jvm.MethodName) jdk_52_method_5_code (2 : Nat) (Option.some Jvm.ClassFile.FieldType.char)).before args0 about1 = true := code_word (m := ⟨8, 4⟩) (meth := k8m4) (c := k8c4) (by decide +kernel) rfl rfl rfl (by decide +kernel)
set_option maxRecDepth 65536 in
theorem w_c19 : (Jvm.Cond.code ({ cls := "java/lang/String", name := "valueOf", desc := "(C)Ljava/lang/String;" } : Jvm.MethodName) jdk_42_method_139_code (1 : Nat) (Option.some (Jvm.ClassFile.FieldType.object "java/lang/String"))).before args0 about1 = true := code_word (m := ⟨7, 3⟩) (meth := k7m3) (c := k7c3) (by decide +kernel) rfl rfl rfl (by decide +kernel)
set_option maxRecDepth 65536 in
theorem w_c20 : (Jvm.Cond.code ({ cls := "java/lang/StringLatin1", name := "canEncode", desc := "(C)Z" } : Jvm.MethodName) jdk_43_method_3_code (1 : Nat) (Option.some Jvm.ClassFile.FieldType.boolean)).before args0 about1 = true := code_word (m := ⟨15, 1⟩) (meth := k15m1) (c := k15c1) (by decide +kernel) rfl rfl rfl (by decide +kernel)
set_option maxRecDepth 65536 in
theorem w_c21 : (Jvm.Cond.code ({ cls := "java/lang/StringUTF16", name := "toBytes", desc := "(C)[B" } : Jvm.MethodName) jdk_52_method_24_code (2 : Nat) (Option.some (Jvm.ClassFile.FieldType.array Jvm.ClassFile.FieldType.byte))).before args0 about1 = true := code_word (m := ⟨8, 9⟩) (meth := k8m9) (c := k8c9) (by decide +kernel) rfl rfl rfl (by decide +kernel)
set_option maxRecDepth 65536 in
theorem w_c22 : (Jvm.Cond.code ({ cls := "java/lang/String", name := "<init>", desc := "([BB)V" } : Jvm.MethodName) jdk_42_method_151_code (3 : Nat) (Option.none : Option Jvm.ClassFile.FieldType)).before args0 about1 = true := code_word (m := ⟨7, 5⟩) (meth := k7m5) (c := k7c5) (by decide +kernel) rfl rfl rfl (by decide +kernel)
set_option maxRecDepth 65536 in
theorem w_c23 : (Jvm.Cond.code ({ cls := "java/lang/StringLatin1", name := "toBytes", desc := "(C)[B" } : Jvm.MethodName) jdk_43_method_46_code (1 : Nat) (Option.some (Jvm.ClassFile.FieldType.array Jvm.ClassFile.FieldType.byte))).before args0 about1 = true := code_word (m := ⟨15, 2⟩) (meth := k15m2) (c := k15c2) (by decide +kernel) rfl rfl rfl (by decide +kernel)
def codes1 : List Jvm.Cond := [Jvm.Cond.code x code maxLocals ret, Jvm.Cond.code ({ cls := "com/example/aeroslice/aeroslice/SrsDefaultsOfPinLaw", name := "draw", desc := "(ICCC)Ljava/lang/String;" } : Jvm.MethodName) method_2_code (4 : Nat) (Option.some (Jvm.ClassFile.FieldType.object "java/lang/String")), Jvm.Cond.code ({ cls := "java/lang/String", name := "<init>", desc := "([C)V" } : Jvm.MethodName) jdk_42_method_3_code (2 : Nat) (Option.none : Option Jvm.ClassFile.FieldType), Jvm.Cond.code ({ cls := "java/lang/String", name := "<init>", desc := "([CIILjava/lang/Void;)V" } : Jvm.MethodName) jdk_42_method_149_code (6 : Nat) (Option.none : Option Jvm.ClassFile.FieldType), Jvm.Cond.code ({ cls := "java/lang/Object", name := "<init>", desc := "()V" } : Jvm.MethodName) object_method_1_code (1 : Nat) (Option.none : Option Jvm.ClassFile.FieldType), Jvm.Cond.code ({ cls := "java/lang/StringUTF16", name := "compress", desc := "([CII)[B" } : Jvm.MethodName) jdk_52_method_16_code (6 : Nat) (Option.some (Jvm.ClassFile.FieldType.array Jvm.ClassFile.FieldType.byte)), Jvm.Cond.code ({ cls := "java/lang/StringUTF16", name := "compress", desc := "([CI[BII)I" } : Jvm.MethodName) jdk_52_method_21_code (7 : Nat) (Option.some Jvm.ClassFile.FieldType.int), Jvm.Cond.code ({ cls := "java/lang/StringUTF16", name := "coderFromArrayLen", desc := "([BI)B" } : Jvm.MethodName) jdk_52_method_15_code (2 : Nat) (Option.some Jvm.ClassFile.FieldType.byte), Jvm.Cond.code ({ cls := "com/example/aeroslice/aeroslice/SrsDefaults", name := "of", desc := "(Ljava/lang/String;)Lcom/example/aeroslice/aeroslice/SrsDefaults;" } : Jvm.MethodName) prog_22_method_2_code (1 : Nat) (Option.some (Jvm.ClassFile.FieldType.object "com/example/aeroslice/aeroslice/SrsDefaults")), Jvm.Cond.code ({ cls := "java/util/Map", name := "of", desc := "()Ljava/util/Map;" } : Jvm.MethodName) jdk_72_method_26_code (0 : Nat) (Option.some (Jvm.ClassFile.FieldType.object "java/util/Map")), Jvm.Cond.code ({ cls := "com/example/aeroslice/aeroslice/SrsDefaults", name := "<init>", desc := "(Ljava/lang/String;Ljava/util/Map;)V" } : Jvm.MethodName) prog_22_method_1_code (3 : Nat) (Option.none : Option Jvm.ClassFile.FieldType), Jvm.Cond.code ({ cls := "com/example/aeroslice/aeroslice/SrsDefaults", name := "ofEveryProperty", desc := "()Ljava/lang/String;" } : Jvm.MethodName) prog_22_method_3_code (1 : Nat) (Option.some (Jvm.ClassFile.FieldType.object "java/lang/String")), Jvm.Cond.code ({ cls := "java/util/ImmutableCollections$MapN", name := "isEmpty", desc := "()Z" } : Jvm.MethodName) jdk_2605_method_7_code (1 : Nat) (Option.some Jvm.ClassFile.FieldType.boolean), Jvm.Cond.code ({ cls := "java/lang/String", name := "equals", desc := "(Ljava/lang/Object;)Z" } : Jvm.MethodName) jdk_42_method_66_code (3 : Nat) (Option.some Jvm.ClassFile.FieldType.boolean), Jvm.Cond.code ({ cls := "java/lang/StringUTF16", name := "toBytes", desc := "([CII)[B" } : Jvm.MethodName) jdk_52_method_14_code (5 : Nat) (Option.some (Jvm.ClassFile.FieldType.array Jvm.ClassFile.FieldType.byte)), Jvm.Cond.code ({ cls := "java/lang/StringUTF16", name := "newBytesFor", desc := "(I)[B" } : Jvm.MethodName) jdk_52_method_2_code (1 : Nat) (Option.some (Jvm.ClassFile.FieldType.array Jvm.ClassFile.FieldType.byte)), Jvm.Cond.code ({ cls := "java/lang/StringUTF16", name := "newBytesLength", desc := "(I)I" } : Jvm.MethodName) jdk_52_method_3_code (1 : Nat) (Option.some Jvm.ClassFile.FieldType.int), Jvm.Cond.code ({ cls := "java/lang/StringUTF16", name := "putChar", desc := "([BII)V" } : Jvm.MethodName) jdk_52_method_4_code (3 : Nat) (Option.none : Option Jvm.ClassFile.FieldType), Jvm.Cond.code ({ cls := "java/lang/StringUTF16", name := "getChar", desc := "([BI)C" } : Jvm.MethodName) jdk_52_method_5_code (2 : Nat) (Option.some Jvm.ClassFile.FieldType.char), Jvm.Cond.code ({ cls := "java/lang/String", name := "valueOf", desc := "(C)Ljava/lang/String;" } : Jvm.MethodName) jdk_42_method_139_code (1 : Nat) (Option.some (Jvm.ClassFile.FieldType.object "java/lang/String")), Jvm.Cond.code ({ cls := "java/lang/StringLatin1", name := "canEncode", desc := "(C)Z" } : Jvm.MethodName) jdk_43_method_3_code (1 : Nat) (Option.some Jvm.ClassFile.FieldType.boolean), Jvm.Cond.code ({ cls := "java/lang/StringUTF16", name := "toBytes", desc := "(C)[B" } : Jvm.MethodName) jdk_52_method_24_code (2 : Nat) (Option.some (Jvm.ClassFile.FieldType.array Jvm.ClassFile.FieldType.byte)), Jvm.Cond.code ({ cls := "java/lang/String", name := "<init>", desc := "([BB)V" } : Jvm.MethodName) jdk_42_method_151_code (3 : Nat) (Option.none : Option Jvm.ClassFile.FieldType), Jvm.Cond.code ({ cls := "java/lang/StringLatin1", name := "toBytes", desc := "(C)[B" } : Jvm.MethodName) jdk_43_method_46_code (1 : Nat) (Option.some (Jvm.ClassFile.FieldType.array Jvm.ClassFile.FieldType.byte))]
set_option maxRecDepth 65536 in
theorem codes_eq : words1.filter isCode = codes1 := rfl
theorem w_codes : ∀ c ∈ words1.filter isCode, c.before args0 about1 = true := by
  rw [codes_eq]
  intro c hc
  simp only [codes1, List.mem_cons, List.not_mem_nil, or_false] at hc
  rcases hc with rfl | rfl | rfl | rfl | rfl | rfl | rfl | rfl | rfl | rfl | rfl | rfl | rfl | rfl | rfl | rfl | rfl | rfl | rfl | rfl | rfl | rfl | rfl | rfl
  · exact w_c0
  · exact w_c1
  · exact w_c2
  · exact w_c3
  · exact w_c4
  · exact w_c5
  · exact w_c6
  · exact w_c7
  · exact w_c8
  · exact w_c9
  · exact w_c10
  · exact w_c11
  · exact w_c12
  · exact w_c13
  · exact w_c14
  · exact w_c15
  · exact w_c16
  · exact w_c17
  · exact w_c18
  · exact w_c19
  · exact w_c20
  · exact w_c21
  · exact w_c22
  · exact w_c23
set_option maxRecDepth 65536 in
theorem w_t1 : (words1.take 24).all (fun c => isCode c || c.before args0 about1) = true := by decide +kernel
set_option maxRecDepth 65536 in
theorem w_t2 : ((words1.drop 24).take 24).all (fun c => isCode c || c.before args0 about1) = true := by decide +kernel
set_option maxRecDepth 65536 in
theorem w_t3 : (((words1.drop 24).drop 24).take 24).all (fun c => isCode c || c.before args0 about1) = true := by decide +kernel
set_option maxRecDepth 65536 in
theorem w_t4 : ((((words1.drop 24).drop 24).drop 24).take 24).all (fun c => isCode c || c.before args0 about1) = true := by decide +kernel
set_option maxRecDepth 65536 in
theorem w_t5 : ((((words1.drop 24).drop 24).drop 24).drop 24).all (fun c => isCode c || c.before args0 about1) = true := by decide +kernel
theorem w_tables : (allAtoms (Jvm.Cond.code x code maxLocals ret :: tables_1)).before args0 about1 = true := by
  rw [allAtoms_all]
  show words1.all (fun c => c.before args0 about1) = true
  refine all_split ?_ w_codes
  rw [← List.take_append_drop 24 words1, List.all_append, w_t1, ← List.take_append_drop 24 (words1.drop 24), List.all_append, w_t2, ← List.take_append_drop 24 ((words1.drop 24).drop 24), List.all_append, w_t3, ← List.take_append_drop 24 (((words1.drop 24).drop 24).drop 24), List.all_append, w_t4, w_t5]
  rfl
set_option maxRecDepth 65536 in
theorem w_rest : rest_1_c.before args0 about1 = true := by decide +kernel
set_option maxRecDepth 65536 in
theorem w_case : (Jvm.Cond.and given_1 narrow_1).before args0 about1 = true := by decide +kernel
set_option maxRecDepth 65536 in
theorem w_consts : constsHeld consts_1 about1 := Jvm.Lit.constsHeldB_iff.mp (by decide +kernel)
theorem w_applies : (headSpec (Jvm.Cond.code x code maxLocals ret :: tables_1) room_1).applies x e0.platform about1 = true :=
  (Spec.applies_iff w_frames).mpr ⟨w_running, w_runnable, w_alone, w_named, w_hears, w_ripe, w_room, w_tables⟩
theorem atStart : AtStart classFile x code maxLocals ret World_1 tables_1 room_1 Calls_1 rest_1 Pre_1 launch0 p0 e0 about1 theMethod args0 below0 :=
  ⟨lists_1, trivial, launch0.admits_env _ _ _, launch0.least_env, fairChoices_fair.cas, fairChoices_fair.clock, w_frames, w_args, w_heap, w_applies, ⟨w_consts, trivial⟩, w_rest, w_case⟩
end start1
theorem witness_1 : WitnessClaimed_1 := ⟨start1.p0, start1.e0, start1.about1, start1.theMethod, start1.args0, start1.below0, start1.atStart⟩
end Jvm.Pilot.@@N@@
