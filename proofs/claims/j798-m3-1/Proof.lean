import JvmDerived
import JvmDerived.Pilot.@@N@@Statement
import JvmDerived.Pilot.@@N@@Code
set_option linter.unusedVariables false
set_option linter.unusedSimpArgs false
@@BLOCK:LamKit.lean.txt@@
namespace Jvm.RoadKit
open Sem ClassFile Op Lib Jvm.Stand Jvm.Free Jvm.LawKit
section New
variable {p : Program} {l : Launch} {e : Env} {R : Room} {s : State} {m : MethodId} {args : Array Value} {below : List Frame} {meth : Method} {c : Code} {T : State} {locs : List Loc} {cells slots : Nat}
theorem retI (X : Stand p l e R s m args below meth c T locs cells slots) (hx : p.tables.exec = Jvm.exec) {pc : Nat} {Ls : Array Slot} {z : Int32} {rest : List Value} (hret : meth.sig.returnType = some .int) (hd : decode c.code pc = .ok (.ireturn, 1)) {fs : List Frame}
    (hl : ∀ (f : JFrame) (acts : List Action), f.method = m → f.locked = none → f.entered = [] → (doReturn e (T.setTop f) acts (some (.int z))).1 = T.setFrames fs) : Steps p.tables e below (T.setTop (mkF m pc Ls (.int z :: rest))) (T.setFrames fs) := by
  have hm' : T.vm.method? m = some meth := X.method'
  have hn : narrow .int (.int z) = .int z := rfl
  show Steps p.tables e below (T.setTop { method := m, pc := pc, locals := Ls, stack := _ :: rest, locked := none }) _
  jvm_step X.here [X.here.top, hx, hd, hm', hret, hn]
  first | (intro acts; rw [hl _ acts rfl rfl rfl]) | rw [hl _ _ rfl rfl rfl]
  exact Steps.refl _
end New
end Jvm.RoadKit
namespace Jvm.Pilot.@@N@@
open Jvm Jvm.ClassFile Sem Op Lib Jvm.Free Jvm.Stand Jvm.LawKit Jvm.RoadKit Bundle Jvm.Pilot.@@N@@.Jvm.D
theorem own_eqI {args : Array Value} {s : State} {t : Term} {k : Int32} (h : (Jvm.Cond.eq t (.int k)).value args s none s [] = some true) : t.eval args s none [] s = some (.int k) := by
  obtain ⟨x, y, hx, hy, -, k2⟩ := cmp_v (Or.inl h)
  obtain rfl : y = .int k := (Option.some.inj ((Term.int_eval k).symm.trans hy)).symm
  obtain ⟨z, rfl⟩ := k2
  have := gotT (Cond.eq_ints hx (Term.int_eval k)) h
  rw [hx, this]
def Q0 (n0 : Nat) (v : Option Value) (L : List Loc) : Prop := v = some (.int 1) ∧ Fr n0 L
theorem own_len {s : State} {args : Array Value} {t : Term} {a : Addr} {c : Cell} {z : Int32} (ev : t.eval args s none [] s = some (.ref a)) (fl : s.arrayAt? a = some c) (el : (Term.length t).eval args s none [] s = some (.int z)) : c.slots.size < 2 ^ 31 ∧ c.slots.size.toInt32 = z := by
  simp only [Term.eval, ev] at el
  by_cases q : c.slots.size < 2 ^ 31
  · simp [fl, q] at el; exact ⟨q, el⟩
  · simp [fl, q] at el
theorem own_arr0 {s : State} {args : Array Value} {t : Term} {a : Addr} {K : String} (hf : Fit s) (ev : t.eval args s none [] s = some (.ref a)) (ha : (Jvm.Cond.arrayOf t (.object K)).value args s none s [] = some true) (hl : (Jvm.Cond.eq (.length t) (.int 0)).value args s none s [] = some true) :
    ∃ k, Arv s s.heap a k (.object K) (0 : Int32) [] .null := by
  obtain ⟨c, A⟩ := Arr.start ev ha
  have hq := own_len ev (A.fin (Vm.Alike.refl _)) (own_eqI hl)
  exact ⟨_, Arv.start hf A hq.1 hq.2 (by decide) rfl trivial⟩
set_option maxRecDepth 65536
set_option maxHeartbeats 40000000
abbrev HW (a0 : Array Value) (Z : State) : Prop := ∀ d ∈ tables_1, d.before a0 Z = true
abbrev s0 : String := "COMPACT_STRINGS"
abbrev s1 : String := "DEFAULTCAPACITY_EMPTY_ELEMENTDATA"
abbrev s2 : String := "FIXED_FIELDS"
abbrev s3 : String := "Ljava/lang/Object;"
abbrev s4 : String := "Ljava/lang/String;"
abbrev s5 : String := "Ljava/util/List;"
abbrev s6 : String := "Ljava/util/Optional;"
abbrev s7 : String := "[Ljava/lang/Object;"
abbrev s8 : String := "[Lshadowsift/core/ValueSet;"
abbrev s9 : String := "arraycopy"
abbrev s11 : String := "eitherPort"
abbrev s12 : String := "elementData"
abbrev s13 : String := "elements"
abbrev s15 : String := "impossible"
abbrev s16 : String := "interfaces"
abbrev s18 : String := "java/lang/Cloneable"
abbrev s20 : String := "java/lang/Object"
abbrev s21 : String := "java/lang/Record"
abbrev s22 : String := "java/lang/String"
abbrev s24 : String := "java/lang/System"
abbrev s25 : String := "java/util/AbstractCollection"
abbrev s26 : String := "java/util/AbstractList"
abbrev s27 : String := "java/util/ArrayList"
abbrev s28 : String := "java/util/Arrays"
abbrev s29 : String := "java/util/ImmutableCollections$ListN"
abbrev s30 : String := "java/util/List"
abbrev s32 : String := "java/util/Optional"
abbrev s33 : String := "java/util/function/Consumer"
abbrev s34 : String := "lambda$exclude$1"
abbrev s35 : String := "lambda$require$0"
abbrev s36 : String := "modCount"
abbrev s42 : String := "shadowsift/core/Field"
abbrev s43 : String := "shadowsift/core/ValueSet"
abbrev s44 : String := "shadowsift/core/ValueSet$Builder"
abbrev s45 : String := "shadowsift/iptables/Condition"
abbrev s46 : String := "shadowsift/iptables/Condition$InterfaceTest"
abbrev s47 : String := "shadowsift/iptables/ConditionExactPinLaw"
abbrev s48 : String := "unmodelled"
abbrev jv (x : Int64) : Slot := .val (.long x)
abbrev uu : Slot := .unset
abbrev sc : Slot := .second
abbrev SS (p : Program) (e : Env) (b : List Frame) (T : State) (m : MethodId) (pc : Nat) (L : Array Slot) (S : List Value) (t : State) : Prop := Steps p.tables e b (T.setTop (mkF m pc L S)) t
abbrev mn1 : MethodName := (⟨"java/lang/String", "valueOf", "(C)Ljava/lang/String;"⟩ : MethodName)
abbrev mn2 : MethodName := (⟨"java/lang/StringLatin1", "canEncode", "(C)Z"⟩ : MethodName)
abbrev mn3 : MethodName := (⟨"java/lang/StringLatin1", "toBytes", "(C)[B"⟩ : MethodName)
abbrev mn4 : MethodName := (⟨"java/lang/String", "<init>", "([BB)V"⟩ : MethodName)
abbrev mn5 : MethodName := (⟨"java/lang/Object", "<init>", "()V"⟩ : MethodName)
abbrev mn6 : MethodName := (⟨"shadowsift/core/ValueSet", "range", "(JJ)Lshadowsift/core/ValueSet;"⟩ : MethodName)
abbrev mn7 : MethodName := (⟨"shadowsift/core/ValueSet", "<init>", "([J[J)V"⟩ : MethodName)
abbrev mn8 : MethodName := (⟨"shadowsift/iptables/Condition", "<init>", "()V"⟩ : MethodName)
abbrev mn9 : MethodName := (⟨"java/util/ImmutableCollections$ListN", "size", "()I"⟩ : MethodName)
abbrev mn10 : MethodName := (⟨"java/util/ArrayList", "<init>", "()V"⟩ : MethodName)
abbrev mn11 : MethodName := (⟨"java/util/AbstractList", "<init>", "()V"⟩ : MethodName)
abbrev mn12 : MethodName := (⟨"java/util/AbstractCollection", "<init>", "()V"⟩ : MethodName)
abbrev mn13 : MethodName := (⟨"shadowsift/iptables/Condition", "exact", "()Z"⟩ : MethodName)
abbrev mn14 : MethodName := (⟨"shadowsift/iptables/Condition", "exclude", "(ILshadowsift/core/ValueSet;)V"⟩ : MethodName)
abbrev mn15 : MethodName := (⟨"java/util/ImmutableCollections$ListN", "get", "(I)Ljava/lang/Object;"⟩ : MethodName)
abbrev mn16 : MethodName := (⟨"shadowsift/core/Field", "domain", "()Lshadowsift/core/ValueSet;"⟩ : MethodName)
abbrev mn17 : MethodName := (⟨"shadowsift/core/ValueSet", "without", "(Lshadowsift/core/ValueSet;)Ljava/util/Optional;"⟩ : MethodName)
abbrev mn18 : MethodName := (⟨"shadowsift/core/ValueSet$Builder", "<init>", "(I)V"⟩ : MethodName)
abbrev mn19 : MethodName := (⟨"shadowsift/core/ValueSet$Builder", "add", "(JJ)V"⟩ : MethodName)
abbrev mn20 : MethodName := (⟨"shadowsift/core/ValueSet$Builder", "set", "()Ljava/util/Optional;"⟩ : MethodName)
abbrev mn21 : MethodName := (⟨"java/util/Arrays", "copyOf", "([JI)[J"⟩ : MethodName)
abbrev mn22 : MethodName := (⟨"java/lang/Math", "min", "(II)I"⟩ : MethodName)
abbrev mn23 : MethodName := (⟨"java/util/Optional", "of", "(Ljava/lang/Object;)Ljava/util/Optional;"⟩ : MethodName)
abbrev mn24 : MethodName := (⟨"java/util/Objects", "requireNonNull", "(Ljava/lang/Object;)Ljava/lang/Object;"⟩ : MethodName)
abbrev mn25 : MethodName := (⟨"java/util/Optional", "<init>", "(Ljava/lang/Object;)V"⟩ : MethodName)
abbrev mn26 : MethodName := (⟨"java/util/Optional", "isEmpty", "()Z"⟩ : MethodName)
abbrev mn27 : MethodName := (⟨"java/util/Optional", "ifPresent", "(Ljava/util/function/Consumer;)V"⟩ : MethodName)
abbrev mn28 : MethodName := (⟨"shadowsift/iptables/Condition", "lambda$exclude$1", "(ILshadowsift/core/ValueSet;)V"⟩ : MethodName)
abbrev mn29 : MethodName := (⟨"shadowsift/iptables/Condition", "require", "(ILshadowsift/core/ValueSet;)V"⟩ : MethodName)
abbrev mn30 : MethodName := (⟨"shadowsift/iptables/Condition", "requireEitherPort", "(Lshadowsift/core/ValueSet;)V"⟩ : MethodName)
abbrev mn31 : MethodName := (⟨"java/util/ArrayList", "add", "(Ljava/lang/Object;)Z"⟩ : MethodName)
abbrev mn32 : MethodName := (⟨"java/util/ArrayList", "add", "(Ljava/lang/Object;[Ljava/lang/Object;I)V"⟩ : MethodName)
abbrev mn33 : MethodName := (⟨"java/util/ArrayList", "grow", "()[Ljava/lang/Object;"⟩ : MethodName)
abbrev mn34 : MethodName := (⟨"java/util/ArrayList", "grow", "(I)[Ljava/lang/Object;"⟩ : MethodName)
abbrev mn35 : MethodName := (⟨"java/lang/Math", "max", "(II)I"⟩ : MethodName)
abbrev mn36 : MethodName := (⟨"shadowsift/core/ValueSet", "intersection", "(Lshadowsift/core/ValueSet;)Ljava/util/Optional;"⟩ : MethodName)
abbrev mn37 : MethodName := (⟨"java/lang/Math", "max", "(JJ)J"⟩ : MethodName)
abbrev mn38 : MethodName := (⟨"java/lang/Math", "min", "(JJ)J"⟩ : MethodName)
abbrev mn39 : MethodName := (⟨"java/util/Optional", "empty", "()Ljava/util/Optional;"⟩ : MethodName)
abbrev mn40 : MethodName := (⟨"shadowsift/iptables/Condition", "requireInterface", "(ILjava/lang/String;Z)V"⟩ : MethodName)
abbrev mn41 : MethodName := (⟨"shadowsift/iptables/Condition$InterfaceTest", "<init>", "(ILjava/lang/String;Z)V"⟩ : MethodName)
abbrev mn42 : MethodName := (⟨"java/lang/Record", "<init>", "()V"⟩ : MethodName)
abbrev mn43 : MethodName := (⟨"shadowsift/iptables/Condition", "requireUnmodelled", "()V"⟩ : MethodName)
abbrev mn44 : MethodName := (⟨"shadowsift/iptables/Condition", "requireNothing", "()V"⟩ : MethodName)
abbrev mn45 : MethodName := (⟨"shadowsift/iptables/Condition", "lambda$require$0", "(ILshadowsift/core/ValueSet;)V"⟩ : MethodName)
def MF (l : Launch) (Z : State) (y : MethodName) (bytes : ByteArray) (maxL : Nat) (ret : Option FieldType) (R : Room) (A : Array Value) (h0 : Heap) (Q : Option Value → Heap → List Loc → Prop) : Prop :=
  MetFree l y (head1 [Jvm.Cond.code y bytes maxL ret] R) (fun a U => a = A ∧ Z.Warmed39 U.vm ∧ U.heap = h0) (fun _ _ _ _ _ => True) (fun _ U o U' => ∃ v L, o = .returned v ∧ Q v U'.heap L ∧ FrameEnd U o U' L R.cells R.slots)
abbrev QR (n0 : Nat) (h0 : Heap) (r : Option Value) (v : Option Value) (h : Heap) (L : List Loc) : Prop := v = r ∧ Fr n0 L ∧ h = h0
abbrev RT (T : State) (e : Env) (m : MethodId) (v : Option Value) (fs : List Frame) : Prop := ∀ (f : JFrame) (acts : List Action), f.method = m → f.locked = none → f.entered = [] → (doReturn e (T.setTop f) acts v).1 = T.setFrames fs
abbrev EN (p : Program) (l : Launch) (e : Env) (R : Room) (s : State) (m : MethodId) (A : Array Value) (below : List Frame) (meth : Method) (c : Code) (s₁ : State) (L0 : Array Slot) (ret : Option FieldType) (Q : Option Value → Heap → List Loc → Prop) : Prop :=
  ∃ v T h L k j, Stand p l e R s m A below meth c T L k j ∧ T.heap = h ∧ (k ≤ R.cells ∧ j ≤ R.slots) ∧ (ret = none → v = none) ∧ (∀ fs, RT T e m v fs → Steps p.tables e below (s₁.setTop (mkF m 0 L0 [])) (T.setFrames fs)) ∧ Q v h L
theorem hst0 {s s₁ : State} {fs : List Frame} {h0 : Heap} (h : s₁ = s.setFrames fs) (hh : s.heap = h0) : s₁.heap = h0 := by subst h; exact hh
theorem own_start {l : Launch} {Z : State} {y : MethodName} {bytes : ByteArray} {maxL : Nat} {ret : Option FieldType} {R : Room} {A : Array Value} {h0 : Heap} {Q : Option Value → Heap → List Loc → Prop} {L0 : Array Slot}
    (hp : plainFor y = true) (hef : ∀ m, entryFrame m A maxL = mkF m 0 L0 [])
    (body : ∀ p e s m below meth c s₁, Z.Warmed39 s.vm → p.tables.exec = Jvm.exec → c.code = bytes → c.maxLocals = maxL → s.vm.findClass y.cls = some m.cls → meth.name = y.name → meth.sig.returnType = ret → Stand p l e R s m A below meth c s₁ [] 0 0 → s₁.heap = h0 → EN p l e R s m A below meth c s₁ L0 ret Q) :
    MF l Z y bytes maxL ret R A h0 Q := by
  refine MetFree.of_bodySF hp hisR ?_
  intro p e s m args below meth c s₁ Bd hml0 hP hK
  obtain ⟨rfl, hZ, hh⟩ := hP
  obtain ⟨v, T, h, L, k, j, X, rfl, hkj, hv, hst, hQ⟩ := body p e s m below meth c s₁ hZ Bd.exec Bd.bytes hml0 (findClass_of_methodNamed Bd.named) (name_of_methodNamed Bd.named Bd.method).1 Bd.returns (Stand.of_body Bd) (hst0 Bd.state hh)
  obtain ⟨fs, hr, hrun, hended, hW, hsame⟩ := X.leave (v := v) (fun h => hv (Bd.returns ▸ h))
  exact ⟨_, _, castTop (hef m) (hst fs hr), hrun, hended, _, _, rfl, hQ, ⟨_, rfl⟩, hW, hsame.mono hkj.1 hkj.2⟩
section Calls
variable {p : Program} {l : Launch} {e : Env} {R : Room} {s : State} {m : MethodId} {args : Array Value} {below : List Frame} {meth : Method} {c : Code} {T : State} {locs : List Loc} {cells slots : Nat} {Z : State} {a0 : Array Value} {y xi : MethodName} {own C : String} {index na maxL : Nat} {bytes : ByteArray} {ret : Option FieldType} {rm : Room} {A : Array Value} {h : Heap} {Q : Option Value → Heap → List Loc → Prop} {ml pc : Nat} {Ls : Array Slot}
abbrev B4 (a0 : Array Value) (Z : State) (d : Jvm.Cond) : Prop := d.before a0 Z = true
abbrev BT (a0 : Array Value) (Z : State) (d : Jvm.Cond) : Prop := d.before a0 Z = true ∧ (d.onTables && d.keepsFace) = true
abbrev NH (C : String) : Prop := C ≠ "java/lang/invoke/MethodHandle" ∧ C ≠ "java/lang/invoke/VarHandle"
abbrev AR (d : String) (na : Nat) : Prop := ∃ ps r, parseMethodDescriptor d = some ⟨ps, r⟩ ∧ ps.length = na
theorem own_ar {d : String} {na : Nat} (h : AR d na) {L : List Value} (hl : L.length = na) : ∀ sig, parseMethodDescriptor d = some sig → L.length = sig.parameters.length := by
  obtain ⟨ps, r, h1, rfl⟩ := h; exact lenOf h1 hl
def CI (a0 : Array Value) (Z : State) (own : String) (index : Nat) (xi y : MethodName) (C : String) (na : Nat) (k : Jvm.Cond) : Prop :=
  B4 a0 Z (.methodLink own index xi) ∧ B4 a0 Z (.declares xi) ∧ BT a0 Z (.interfaceMethod xi.cls xi.cls xi.name xi.desc) ∧ B4 a0 Z (.selects C xi y) ∧ B4 a0 Z (.instanceMethod y) ∧ B4 a0 Z (.publicMethod y) ∧ B4 a0 Z (.unhidden C xi.name xi.desc) ∧ B4 a0 Z (.castable C xi.cls) ∧ B4 a0 Z k ∧ B4 a0 Z (.initialized y.cls) ∧ NH xi.cls ∧ AR xi.desc na
def CV (a0 : Array Value) (Z : State) (own : String) (index : Nat) (xi y : MethodName) (C : String) (na : Nat) (k : Jvm.Cond) : Prop :=
  B4 a0 Z (.methodLink own index xi) ∧ B4 a0 Z (.declares xi) ∧ (∀ s : State, Z.Warmed39 s.vm → NotFace s xi) ∧ B4 a0 Z (.selects C xi y) ∧ B4 a0 Z (.instanceMethod y) ∧ B4 a0 Z k ∧ B4 a0 Z (.initialized y.cls) ∧ NH xi.cls ∧ AR xi.desc na
def CS (a0 : Array Value) (Z : State) (own : String) (index : Nat) (y : MethodName) (na : Nat) (k : Jvm.Cond) : Prop :=
  B4 a0 Z (.methodLink own index y) ∧ B4 a0 Z (.static y) ∧ B4 a0 Z k ∧ B4 a0 Z (.initialized y.cls) ∧ NH y.cls ∧ AR y.desc na
def CN (a0 : Array Value) (Z : State) (own : String) (index : Nat) (y : MethodName) (na : Nat) (k : Jvm.Cond) : Prop :=
  y.name = "<init>" ∧ B4 a0 Z (.methodLink own index y) ∧ B4 a0 Z (.instanceMethod y) ∧ B4 a0 Z k ∧ B4 a0 Z (.initialized y.cls) ∧ NH y.cls ∧ AR y.desc na
/-- what stands behind a call -/
abbrev AF (p : Program) (l : Launch) (e : Env) (R : Room) (s : State) (m : MethodId) (args : Array Value) (below : List Frame) (meth : Method) (c : Code) (T : State) (locs : List Loc) (cells slots : Nat) (pc len : Nat) (Ls : Array Slot) (S rest : List Value) (rm : Room) (Q : Option Value → Heap → List Loc → Prop) : Prop :=
  ∃ v T' L, Stand p l e R s m args below meth c T' (locs ++ L) (cells + rm.cells) (slots + rm.slots) ∧ Q v T'.heap L ∧ ∀ t, Steps p.tables e below (T'.setTop (mkF m (pc + len) Ls (v.toList ++ rest))) t → Steps p.tables e below (T.setTop (mkF m pc Ls S)) t
abbrev RM (W maxL cells slots : Nat) (rm R : Room) : Prop := rm.frames + 1 ≤ R.frames ∧ W + (maxL + 11) + rm.locals ≤ R.locals ∧ cells + rm.cells ≤ R.cells ∧ slots + rm.slots ≤ R.slots
abbrev cats (r : List Value) : Nat := (r.map fun v => v.category).sum
theorem own_cI (X : Stand p l e R s m args below meth c T locs cells slots) (hx : p.tables.exec = Jvm.exec) (hZ : Z.Warmed39 s.vm) (hown : s.vm.findClass own = some m.cls) (hml : c.maxLocals = ml)
    (w : CI a0 Z own index xi y C na (.code y bytes maxL ret)) (hM : MF l Z y bytes maxL ret rm A h Q) (hE : T.heap = h) {b : Addr} (E : Exa Z h b C) (pc : Nat) (Ls : Array Slot) (argsL rest : List Value) (W : Nat) {count : Nat}
    (hs : Ls.size = ml) (hd : decode c.code pc = .ok (.invokeinterface index count, 5)) (hr : RM W maxL cells slots rm R) (hn : argsL.length = na := by rfl) (hA : (Value.ref b :: argsL).toArray = A := by rfl) (hc : cats rest = W := by rfl) :
    AF p l e R s m args below meth c T locs cells slots pc 5 Ls (argsL.reverse ++ .ref b :: rest) rest rm Q := by
  obtain ⟨w1, w2, w3, w4, w5, w6, w7, w8, w9, w10, w11, w12⟩ := w
  obtain ⟨cq, kq, qa, qb, qc⟩ := isOf hZ hE E
  obtain ⟨v, _, ⟨T', L', k', n'⟩, -, X', ⟨Lc, hQ, hl, hy, hz⟩, st⟩ := X.interfaceBack hx hown (mvT hZ w1 rfl) (mvT hZ w2 rfl) (mvT hZ w3.1 w3.2) (mvT hZ w4 rfl) (mvT hZ w5 rfl) (mvT hZ w6 rfl) (mvT hZ w7 rfl) (mvT hZ w8 rfl) w11 (backOf (W := W) hM hZ w9 w10 hr.1 hr.2.1) qa qb qc (g := mkF m pc Ls (argsL.reverse ++ .ref b :: rest)) rfl (by rw [hml]; exact hs) (Steps.refl _) (argsL := argsL) (rest := rest) (own_ar w12 hn) rfl (by show 2 * 0 + cats rest ≤ W; omega) hd (fun _ _ => ⟨hA, hE, hr.2.2.1, hr.2.2.2⟩)
  dsimp only [Pt.U, Pt.locs, Pt.cells, Pt.slots] at X' hl hy hz st hQ
  subst hl hy hz
  exact ⟨v, T', Lc, X', hQ, fun t k => st.trans k⟩
theorem own_cV (X : Stand p l e R s m args below meth c T locs cells slots) (hx : p.tables.exec = Jvm.exec) (hZ : Z.Warmed39 s.vm) (hown : s.vm.findClass own = some m.cls) (hml : c.maxLocals = ml)
    (w : CV a0 Z own index xi y C na (.code y bytes maxL ret)) (hM : MF l Z y bytes maxL ret rm A h Q) (hE : T.heap = h) {b : Addr} (E : Exa Z h b C) (pc : Nat) (Ls : Array Slot) (argsL rest : List Value) (W : Nat)
    (hs : Ls.size = ml) (hd : decode c.code pc = .ok (.invokevirtual index, 3)) (hr : RM W maxL cells slots rm R) (hn : argsL.length = na := by rfl) (hA : (Value.ref b :: argsL).toArray = A := by rfl) (hc : cats rest = W := by rfl) :
    AF p l e R s m args below meth c T locs cells slots pc 3 Ls (argsL.reverse ++ .ref b :: rest) rest rm Q := by
  obtain ⟨w1, w2, w3, w4, w5, w9, w10, w11, w12⟩ := w
  obtain ⟨cq, kq, qa, qb, qc⟩ := isOf hZ hE E
  obtain ⟨v, _, ⟨T', L', k', n'⟩, -, X', ⟨Lc, hQ, hl, hy, hz⟩, st⟩ := X.virtualBack hx hown (mvT hZ w1 rfl) (mvT hZ w2 rfl) (w3 s hZ) (mvT hZ w4 rfl) (mvT hZ w5 rfl) w11 (backOf (W := W) hM hZ w9 w10 hr.1 hr.2.1) qa qc (g := mkF m pc Ls (argsL.reverse ++ .ref b :: rest)) rfl (by rw [hml]; exact hs) (Steps.refl _) (argsL := argsL) (rest := rest) (own_ar w12 hn) rfl (by show 2 * 0 + cats rest ≤ W; omega) hd (fun _ _ => ⟨hA, hE, hr.2.2.1, hr.2.2.2⟩)
  dsimp only [Pt.U, Pt.locs, Pt.cells, Pt.slots] at X' hl hy hz st hQ
  subst hl hy hz
  exact ⟨v, T', Lc, X', hQ, fun t k => st.trans k⟩
theorem own_cS (X : Stand p l e R s m args below meth c T locs cells slots) (hx : p.tables.exec = Jvm.exec) (hZ : Z.Warmed39 s.vm) (hown : s.vm.findClass own = some m.cls) (hml : c.maxLocals = ml)
    (w : CS a0 Z own index y na (.code y bytes maxL ret)) (hM : MF l Z y bytes maxL ret rm A h Q) (hE : T.heap = h) (pc : Nat) (Ls : Array Slot) (argsL rest : List Value) (W : Nat)
    (hs : Ls.size = ml) (hd : decode c.code pc = .ok (.invokestatic index, 3)) (hr : RM W maxL cells slots rm R) (hn : argsL.length = na := by rfl) (hA : argsL.toArray = A := by rfl) (hc : cats rest = W := by rfl) :
    AF p l e R s m args below meth c T locs cells slots pc 3 Ls (argsL.reverse ++ rest) rest rm Q := by
  obtain ⟨w1, w2, w9, w10, w11, w12⟩ := w
  obtain ⟨v, _, ⟨T', L', k', n'⟩, -, X', ⟨Lc, hQ, hl, hy, hz⟩, st⟩ := Jvm.LawKit.callS X hx hown (mvT hZ w1 rfl) (mvT hZ w2 rfl) (mvT hZ w10 rfl) (mvT hZ w9 rfl) w11 (backOf (W := W) hM hZ w9 w10 hr.1 hr.2.1) (g := mkF m pc Ls (argsL.reverse ++ rest)) rfl (by rw [hml]; exact hs) (argsL := argsL) (rest := rest) (own_ar w12 hn) rfl (by show 2 * 0 + cats rest ≤ W; omega) hd (fun _ _ => ⟨hA, hE, hr.2.2.1, hr.2.2.2⟩)
  dsimp only [Pt.U, Pt.locs, Pt.cells, Pt.slots] at X' hl hy hz st hQ
  subst hl hy hz
  exact ⟨v, T', Lc, X', hQ, fun t k => st t k⟩
theorem own_cN (X : Stand p l e R s m args below meth c T locs cells slots) (hx : p.tables.exec = Jvm.exec) (hZ : Z.Warmed39 s.vm) (hown : s.vm.findClass own = some m.cls) (hml : c.maxLocals = ml)
    (w : CN a0 Z own index y na (.code y bytes maxL none)) (hM : MF l Z y bytes maxL none rm A h Q) (hE : T.heap = h) (b : Addr) (pc : Nat) (Ls : Array Slot) (argsL rest : List Value) (W : Nat)
    (hs : Ls.size = ml) (hd : decode c.code pc = .ok (.invokespecial index, 3)) (hr : RM W maxL cells slots rm R) (hn : argsL.length = na := by rfl) (hA : (Value.ref b :: argsL).toArray = A := by rfl) (hc : cats rest = W := by rfl) :
    AF p l e R s m args below meth c T locs cells slots pc 3 Ls (argsL.reverse ++ .ref b :: rest) rest rm Q := by
  obtain ⟨w0, w1, w2, w9, w10, w11, w12⟩ := w
  obtain ⟨v, _, ⟨T', L', k', n'⟩, -, X', ⟨Lc, hQ, hl, hy, hz⟩, st⟩ := X.specialBack hx w0 hown (mvT hZ w1 rfl) (mvT hZ w2 rfl) (mvT hZ w9 rfl) w11 (backOf (W := W) hM hZ w9 w10 hr.1 hr.2.1) (g := mkF m pc Ls (argsL.reverse ++ .ref b :: rest)) rfl (by rw [hml]; exact hs) (Steps.refl _) (argsL := argsL) (rest := rest) (own_ar w12 hn) rfl (by show 2 * 0 + cats rest ≤ W; omega) hd (fun _ _ => ⟨hA, hE, hr.2.2.1, hr.2.2.2⟩)
  dsimp only [Pt.U, Pt.locs, Pt.cells, Pt.slots] at X' hl hy hz st hQ
  subst hl hy hz
  exact ⟨v, T', Lc, X', hQ, fun t k => st.trans k⟩
def CM (a0 : Array Value) (Z : State) (own : String) (index : Nat) (y : MethodName) (na : Nat) (host : String) (k : Jvm.Cond) : Prop :=
  y.name = "<init>" ∧ B4 a0 Z (.methodLinkNest own index y host) ∧ B4 a0 Z (.instanceMethod y) ∧ B4 a0 Z k ∧ B4 a0 Z (.initialized y.cls) ∧ NH y.cls ∧ AR y.desc na
theorem mvM {host : String} (hZ : Z.Warmed39 s.vm) (w : (Cond.methodLinkNest own index y host).before a0 Z = true) : (Cond.methodLinkNest own index y host).before args s = true := (Cond.methodLinkNest_wide hZ w :)
theorem own_cM {host : String} (X : Stand p l e R s m args below meth c T locs cells slots) (hx : p.tables.exec = Jvm.exec) (hZ : Z.Warmed39 s.vm) (hown : s.vm.findClass own = some m.cls) (hml : c.maxLocals = ml)
    (w : CM a0 Z own index y na host (.code y bytes maxL none)) (hM : MF l Z y bytes maxL none rm A h Q) (hE : T.heap = h) (b : Addr) (pc : Nat) (Ls : Array Slot) (argsL rest : List Value) (W : Nat)
    (hs : Ls.size = ml) (hd : decode c.code pc = .ok (.invokespecial index, 3)) (hr : RM W maxL cells slots rm R) (hn : argsL.length = na := by rfl) (hA : (Value.ref b :: argsL).toArray = A := by rfl) (hc : cats rest = W := by rfl) :
    AF p l e R s m args below meth c T locs cells slots pc 3 Ls (argsL.reverse ++ .ref b :: rest) rest rm Q := by
  obtain ⟨w0, w1, w2, w9, w10, w11, w12⟩ := w
  obtain ⟨v, _, ⟨T', L', k', n'⟩, -, X', ⟨Lc, hQ, hl, hy, hz⟩, st⟩ := X.specialBackNest hx w0 hown (mvM hZ w1) (mvT hZ w2 rfl) (mvT hZ w9 rfl) w11 (backOf (W := W) hM hZ w9 w10 hr.1 hr.2.1) (g := mkF m pc Ls (argsL.reverse ++ .ref b :: rest)) rfl (by rw [hml]; exact hs) (Steps.refl _) (argsL := argsL) (rest := rest) (own_ar w12 hn) rfl (by show 2 * 0 + cats rest ≤ W; omega) hd (fun _ _ => ⟨hA, hE, hr.2.2.1, hr.2.2.2⟩)
  dsimp only [Pt.U, Pt.locs, Pt.cells, Pt.slots] at X' hl hy hz st hQ
  subst hl hy hz
  exact ⟨v, T', Lc, X', hQ, fun t k => st.trans k⟩
def CP (a0 : Array Value) (Z : State) (own : String) (index : Nat) (y : MethodName) (na : Nat) (k : Jvm.Cond) : Prop :=
  B4 a0 Z (.methodLink own index y) ∧ B4 a0 Z (.instanceMethod y) ∧ B4 a0 Z (.selects y.cls y y) ∧ (∀ s : State, Z.Warmed39 s.vm → s.PrivateAt y) ∧ B4 a0 Z k ∧ B4 a0 Z (.initialized y.cls) ∧ NH y.cls ∧ AR y.desc na
theorem own_cP (X : Stand p l e R s m args below meth c T locs cells slots) (hx : p.tables.exec = Jvm.exec) (hZ : Z.Warmed39 s.vm) (hown : s.vm.findClass own = some m.cls) (hml : c.maxLocals = ml)
    (w : CP a0 Z own index y na (.code y bytes maxL ret)) (hM : MF l Z y bytes maxL ret rm A h Q) (hE : T.heap = h) {b : Addr} {C : String} (E : Exa Z h b C) (pc : Nat) (Ls : Array Slot) (argsL rest : List Value) (W : Nat)
    (hs : Ls.size = ml) (hd : decode c.code pc = .ok (.invokevirtual index, 3)) (hr : RM W maxL cells slots rm R) (hn : argsL.length = na := by rfl) (hA : (Value.ref b :: argsL).toArray = A := by rfl) (hc : cats rest = W := by rfl) :
    AF p l e R s m args below meth c T locs cells slots pc 3 Ls (argsL.reverse ++ .ref b :: rest) rest rm Q := by
  obtain ⟨w1, w2, w3, w4, w9, w10, w11, w12⟩ := w
  obtain ⟨cq, qq, qr⟩ := E.cell
  obtain ⟨v, _, ⟨T', L', k', n'⟩, -, X', ⟨Lc, hQ, hl, hy, hz⟩, st⟩ := X.privateBack hx hown (mvT hZ w1 rfl) (mvT hZ w2 rfl) (mvT hZ w3 rfl) (w4 s hZ) (mvT hZ w9 rfl) w11 (backOf (W := W) hM hZ w9 w10 hr.1 hr.2.1) (g := mkF m pc Ls (argsL.reverse ++ .ref b :: rest)) rfl (by rw [hml]; exact hs) (Steps.refl _) (by rw [hE]; exact qq) qr (argsL := argsL) (rest := rest) (own_ar w12 hn) rfl (by show 2 * 0 + cats rest ≤ W; omega) hd (fun _ _ => ⟨hA, hE, hr.2.2.1, hr.2.2.2⟩)
  dsimp only [Pt.U, Pt.locs, Pt.cells, Pt.slots] at X' hl hy hz st hQ
  subst hl hy hz
  exact ⟨v, T', Lc, X', hQ, fun t k => st.trans k⟩
theorem own_laJ (X : Stand p l e R s m args below meth c T locs cells slots) (hx : p.tables.exec = Jvm.exec) (hZ : Z.Warmed39 s.vm) (hE : T.heap = h) {a : Addr} {k : ClassId} {n : Int32} {vs : List Value} {d : Value} (F : Arv Z h a k .long n vs d) {j : Int32} (hj : ¬ j < 0 ∧ j < n) {v : Value} (hv : vs.getD j.toNatClampNeg d = v) {rest : List Value} {t : State}
    (hd : decode c.code pc = .ok (.laload, 1)) (K : Steps p.tables e below (T.setTop (mkF m (pc + 1) Ls (v :: rest))) t) : Steps p.tables e below (T.setTop (mkF m pc Ls (.int j :: .ref a :: rest))) t := by
  obtain ⟨cl, Ar, -, S, -, Hs, -⟩ := F
  exact X.laload hx (by rw [hE]; exact Ar.1) (State.isArrayOf_alike hZ.alike Ar.2.1) Ar.2.2 (inb_of S hj) (Hs.at (inb_of S hj) hv) (g := mkF m pc Ls (.int j :: .ref a :: rest)) rfl rfl hd _ K
theorem own_sJ (X : Stand p l e R s m args below meth c T locs cells slots) (hx : p.tables.exec = Jvm.exec) (hZ : Z.Warmed39 s.vm) (hE : T.heap = h) {a : Addr} {k : ClassId} {n : Int32} {vs : List Value} {d : Value} (F : Arv Z h a k .long n vs d) (j : Int32) (hj : ¬ j < 0 ∧ j < n) (i : Nat) (x : Int64) (rest : List Value) (pc : Nat) (Ls : Array Slot)
    (hd : decode c.code pc = .ok (.lastore, 1)) (hi : j.toNatClampNeg = i) (hl : i < vs.length) :
    ∃ T' h', Stand p l e R s m args below meth c T' (locs ++ [⟨a, j.toNatClampNeg⟩]) cells slots ∧ T'.heap = h' ∧ Wr h h' a j.toNatClampNeg (.long x) ∧ Arv Z h' a k .long n (vs.set i (.long x)) d ∧ ∀ t, Steps p.tables e below (T'.setTop (mkF m (pc + 1) Ls rest)) t → Steps p.tables e below (T.setTop (mkF m pc Ls (.long x :: .int j :: .ref a :: rest))) t := by
  obtain ⟨cl, Ar, q, S, M, Hs, G⟩ := F
  obtain ⟨T', h', X', e', W, st⟩ := stJ X hx hZ hE Ar (j := j) (inb_of S hj) (g := mkF m pc Ls (.long x :: .int j :: .ref a :: rest)) rfl rfl hd
  exact ⟨T', h', X', e', W, Arv.set Ar q S M Hs G rfl W i hi hl, st⟩
theorem own_retJ (X : Stand p l e R s m args below meth c T locs cells slots) (hx : p.tables.exec = Jvm.exec) {x : Int64} {rest : List Value} (hret : meth.sig.returnType = some .long) (hd : decode c.code pc = .ok (.lreturn, 1)) {fs : List Frame} (hl : RT T e m (some (.long x)) fs) :
    Steps p.tables e below (T.setTop (mkF m pc Ls (.long x :: rest))) (T.setFrames fs) := retOut X hx hret rfl (Or.inr (Or.inl ⟨rfl, rfl, x, rfl⟩)) hd hl
theorem own_retR (X : Stand p l e R s m args below meth c T locs cells slots) (hx : p.tables.exec = Jvm.exec) {w : Value} {t : FieldType} {rest : List Value} (hret : meth.sig.returnType = some t) (hn : narrow t w = w) (ht : t.isReference = true) (hw : w.isRef = true) (hd : decode c.code pc = .ok (.areturn, 1)) {fs : List Frame} (hl : RT T e m (some w) fs) :
    Steps p.tables e below (T.setTop (mkF m pc Ls (w :: rest))) (T.setFrames fs) := retOut X hx hret hn (Or.inr (Or.inr (Or.inr (Or.inr ⟨rfl, ht, hw⟩)))) hd hl
theorem wx {a0 : Array Value} {Z : State} (hw : HW a0 Z) (i : Nat) {d : Jvm.Cond} (h : tables_1[i]? = some d) : d.before a0 Z = true := hw _ (List.mem_of_getElem? h)
theorem gF {n d R0 O : String} (X : Stand p l e R s m args below meth c T locs cells slots) (hx : p.tables.exec = Jvm.exec) (hZ : Z.Warmed39 s.vm) (hown : s.vm.findClass own = some m.cls) (w : (Cond.fieldLink own index R0 n d).before a0 Z = true) (via : Via Z R0 O n d)
    (eT : T.heap = h) {a : Addr} {v : Value} (F : Fld Z h a O n d v) (pc : Nat) (Ls : Array Slot) (rest : List Value) (hd : decode c.code pc = .ok (.getfield index, 3)) : ∃ T', Stand p l e R s m args below meth c T' locs cells slots ∧ T'.heap = h ∧ ∀ t, Steps p.tables e below (T'.setTop (mkF m (pc + 3) Ls (v :: rest))) t → Steps p.tables e below (T.setTop (mkF m pc Ls (.ref a :: rest))) t :=
  getF X hx hZ hown (host := "") (Or.inl w) via eT F (g := mkF m pc Ls (.ref a :: rest)) rfl rfl hd
end Calls
theorem nl {x y n : Nat} (h : x < n) (k : n ≤ y) : x ≠ y := Nat.ne_of_lt (Nat.lt_of_lt_of_le h k)
theorem lq {x y z : Nat} (h : x < y) (k : y ≤ z) : x < z := Nat.lt_of_lt_of_le h k
abbrev DC (b : ByteArray) (pc : Nat) (i : Instr) (n : Nat) : Prop := decode b pc = .ok (i, n)
abbrev cb1 := jdk_42_method_139_code
abbrev cb2 := jdk_43_method_3_code
abbrev cb3 := jdk_43_method_46_code
abbrev cb4 := jdk_42_method_151_code
abbrev cb6 := prog_63_method_2_code
abbrev cb7 := prog_63_method_1_code
abbrev cb8 := prog_66_method_1_code
abbrev cb9 := jdk_45_method_3_code
abbrev cb10 := jdk_38_method_2_code
abbrev cb11 := jdk_39_method_1_code
abbrev cb12 := jdk_22_method_1_code
abbrev cb13 := prog_66_method_4_code
abbrev cb14 := prog_66_method_6_code
abbrev cb15 := jdk_45_method_4_code
abbrev cb16 := prog_42_method_4_code
abbrev cb17 := prog_63_method_5_code
abbrev cb18 := prog_64_method_1_code
abbrev cb19 := prog_64_method_2_code
abbrev cb20 := prog_64_method_3_code
abbrev cb21 := jdk_65_method_124_code
abbrev cb22 := jdk_29_method_69_code
abbrev cb23 := jdk_32_method_3_code
abbrev cb24 := jdk_31_method_10_code
abbrev cb25 := jdk_32_method_2_code
abbrev cb26 := jdk_32_method_7_code
abbrev cb27 := jdk_32_method_8_code
abbrev cb28 := prog_66_method_13_code
abbrev cb29 := prog_66_method_2_code
abbrev cb30 := prog_66_method_8_code
abbrev cb31 := jdk_38_method_25_code
abbrev cb32 := jdk_38_method_24_code
abbrev cb33 := jdk_38_method_7_code
abbrev cb34 := jdk_38_method_6_code
abbrev cb35 := jdk_29_method_65_code
abbrev cb36 := prog_63_method_4_code
abbrev cb37 := jdk_29_method_66_code
abbrev cb38 := jdk_29_method_70_code
abbrev cb39 := jdk_32_method_1_code
abbrev cb40 := prog_66_method_7_code
abbrev cb41 := prog_67_method_1_code
abbrev cb42 := jdk_30_method_1_code
abbrev cb43 := prog_66_method_3_code
abbrev cb44 := prog_66_method_5_code
abbrev cb45 := prog_66_method_14_code

section Xs
variable {p : Program} {l : Launch} {e : Env} {R : Room} {s : State} {m : MethodId} {args : Array Value} {below : List Frame} {meth : Method} {c : Code} {T : State} {locs : List Loc} {cells slots : Nat} {bs : ByteArray} {pc : Nat} {Ls : Array Slot} {S : List Value} {t : State}
theorem xaloadN (X : Stand p l e R s m args below meth c T locs cells slots) (hx : p.tables.exec = Jvm.exec) (hby : c.code = bs) {k : Fin 4} {v : Value} (hd : decode bs pc = .ok (.aload_n k, 1)) (hl : Ls[k.val]? = some (.val v)) (hv : v.isRef = true) (hr : Steps p.tables e below (T.setTop (mkF m (pc + 1) Ls (v :: S))) t) : Steps p.tables e below (T.setTop (mkF m pc Ls S)) t := XS.aloadN X.here hx rfl (hb hby hd) hl hv hr
theorem xiloadN (X : Stand p l e R s m args below meth c T locs cells slots) (hx : p.tables.exec = Jvm.exec) (hby : c.code = bs) {k : Fin 4} {v : Int32} (hd : decode bs pc = .ok (.iload_n k, 1)) (hl : Ls[k.val]? = some (.val (.int v))) (hr : Steps p.tables e below (T.setTop (mkF m (pc + 1) Ls (.int v :: S))) t) : Steps p.tables e below (T.setTop (mkF m pc Ls S)) t := XS.iloadN X.here hx rfl (hb hby hd) hl hr
theorem xlloadN (X : Stand p l e R s m args below meth c T locs cells slots) (hx : p.tables.exec = Jvm.exec) (hby : c.code = bs) {k : Fin 4} {v : Int64} (hd : decode bs pc = .ok (.lload_n k, 1)) (hl : Ls[k.val]? = some (.val (.long v))) (hr : Steps p.tables e below (T.setTop (mkF m (pc + 1) Ls (.long v :: S))) t) : Steps p.tables e below (T.setTop (mkF m pc Ls S)) t := XS.lloadN X.here hx rfl (hb hby hd) hl hr
theorem xaload (X : Stand p l e R s m args below meth c T locs cells slots) (hx : p.tables.exec = Jvm.exec) (hby : c.code = bs) {k : Nat} {v : Value} (hd : decode bs pc = .ok (.aload k, 2)) (hl : Ls[k]? = some (.val v)) (hv : v.isRef = true) (hr : Steps p.tables e below (T.setTop (mkF m (pc + 2) Ls (v :: S))) t) : Steps p.tables e below (T.setTop (mkF m pc Ls S)) t := XS.aload X.here hx rfl (hb hby hd) hl hv hr
theorem xiload (X : Stand p l e R s m args below meth c T locs cells slots) (hx : p.tables.exec = Jvm.exec) (hby : c.code = bs) {k : Nat} {v : Int32} (hd : decode bs pc = .ok (.iload k, 2)) (hl : Ls[k]? = some (.val (.int v))) (hr : Steps p.tables e below (T.setTop (mkF m (pc + 2) Ls (.int v :: S))) t) : Steps p.tables e below (T.setTop (mkF m pc Ls S)) t := XS.iload X.here hx rfl (hb hby hd) hl hr
theorem xlload (X : Stand p l e R s m args below meth c T locs cells slots) (hx : p.tables.exec = Jvm.exec) (hby : c.code = bs) {k : Nat} {v : Int64} (hd : decode bs pc = .ok (.lload k, 2)) (hl : Ls[k]? = some (.val (.long v))) (hr : Steps p.tables e below (T.setTop (mkF m (pc + 2) Ls (.long v :: S))) t) : Steps p.tables e below (T.setTop (mkF m pc Ls S)) t := XS.lload X.here hx rfl (hb hby hd) hl hr
end Xs
abbrev hostC : String := "shadowsift/iptables/Condition"
abbrev vsC : String := "shadowsift/core/ValueSet"
abbrev xiC : MethodName := ⟨"java/util/function/Consumer", "accept", "(Ljava/lang/Object;)V"⟩
abbrev sgm (impl : String) : Lambda.Shape := Jvm.Lambda.Shape.mk "java/util/function/Consumer" "accept" (MethodDescriptor.mk [.object "java/lang/Object"] none) [.object hostC, .int] 5 hostC impl (MethodDescriptor.mk [.int, .object vsC] none) false (MethodDescriptor.mk [.object vsC] none)
def own_fc : ByteArray := ⟨#[0x2a, 0xb4, 0x00, 0x11, 0x2a, 0xb4, 0x00, 0x13, 0x2b, 0xc0, 0x00, 0x17, 0xb6, 0x00, 0x1d, 0xb1]⟩
theorem fd0 : decode own_fc 0 = .ok (.aload_n 0, 1) := by decide +kernel
theorem fd1 : decode own_fc 1 = .ok (.getfield 17, 3) := by decide +kernel
theorem fd4 : decode own_fc 4 = .ok (.aload_n 0, 1) := by decide +kernel
theorem fd5 : decode own_fc 5 = .ok (.getfield 19, 3) := by decide +kernel
theorem fd8 : decode own_fc 8 = .ok (.aload_n 1, 1) := by decide +kernel
theorem fd9 : decode own_fc 9 = .ok (.checkcast 23, 3) := by decide +kernel
theorem fd12 : decode own_fc 12 = .ok (.invokevirtual 29, 3) := by decide +kernel
theorem fd15 : decode own_fc 15 = .ok (.return_, 1) := by decide +kernel
/-- the entry i of the made class's file names the class C -/
def castOK (σ : Lambda.Shape) (host : String) (i : Nat) (C : String) : Bool :=
  match σ.file host with
  | none => false
  | some D => match D.constantPool[i]? with
    | some (.class_ n) => decide (D.constantPool.string? n = some C) && decide (i ≠ D.thisClass)
    | _ => false
def lamOK (σ : Lambda.Shape) : Bool := Jvm.LamKit.fwdOK σ hostC own_fc 2 none 29 25 && Jvm.LamKit.capOK σ hostC 17 0 && Jvm.LamKit.capOK σ hostC 19 1 && castOK σ hostC 23 vsC
theorem own_lok0 : lamOK (sgm "lambda$require$0") = true := by decide +kernel
theorem own_lok1 : lamOK (sgm "lambda$exclude$1") = true := by decide +kernel
/-- an entry that was resolved at the start stays so -/
theorem own_kept {Z : State} {vm : Vm} (hZ : Z.Warmed39 vm) {c : ClassId} {k : Class} {i : Nat} {x : Resolved} (hk : Z.vm.classes[c]? = some k) (hr : k.resolved[i]? = some (some x)) :
    ∃ k', vm.classes[c]? = some k' ∧ k'.resolved[i]? = some (some x) ∧ k'.cf = k.cf ∧ k'.fields = k.fields ∧ k'.name = k.name := by
  obtain ⟨k', h1, h2, -, h4, -⟩ := hZ.2.2.2 _ _ hk
  refine ⟨k', h1, ?_, by rw [h2], by rw [h2], by rw [h2]⟩
  rcases h4 i with h | ⟨h, -⟩
  · rw [h]; exact hr
  · rw [hr] at h; cases h
theorem own_mcast {Z : State} {d cK x : ClassId} {dk : Class} {σ : Lambda.Shape} {host C : String} {i : Nat} (hd : Z.vm.classes[d]? = some dk) (hn : dk.name = host) (h : Lambda.isMade { classPath := fun _ => none } Z.vm d σ cK = true)
    (hok : castOK σ host i C = true) (hx : Z.vm.findClass C = some x) : ∃ k, Z.vm.classes[cK]? = some k ∧ k.resolved[i]? = some (some (.cls x)) := by
  obtain ⟨dk', k, ok, tk, file, cf, object, iface, toy, lay, methods, target, found, hd', hk, hfile, hcf, -, -, -, -, -, -, -, -, -, -, -, -, -, -, -, -, -, -, hres, -⟩ := Lambda.isMade_spec h
  cases hd.symm.trans hd'
  rw [hn] at hcf
  unfold castOK at hok
  rw [hcf] at hok
  dsimp only at hok
  split at hok
  · rename_i n hi
    simp only [Bool.and_eq_true, decide_eq_true_eq] at hok
    exact ⟨k, hk, hres i _ (Lambda.resolvedOf_class hi hok.2 hok.1 hx)⟩
  · cases hok
theorem own_mitf {Z : State} {d cK : ClassId} {σ : Lambda.Shape} (h : Lambda.isMade { classPath := fun _ => none } Z.vm d σ cK = true) : ∃ t tk, Z.vm.findClass σ.implClass = some t ∧ Z.vm.classes[t]? = some tk ∧ tk.isInterface = σ.implItf := by
  obtain ⟨dk', k, ok, tk, file, cf, object, iface, toy, lay, methods, target, found, -, -, -, -, -, -, -, -, -, h1, h2, -, -, -, -, -, -, h3, -⟩ := Lambda.isMade_spec h
  exact ⟨toy, tk, h1, h2, h3⟩
/-- the function object that a site of σ made: what it captured -/
def LamF (Z : State) (h : Heap) (a : Addr) (σ : Lambda.Shape) (b : Addr) (j : Int32) : Prop :=
  ∃ (cK : ClassId) (cell : Cell), Jvm.LamKit.Made Z hostC σ cK ∧ h[a]? = some cell ∧ cell.cls = cK ∧ cell.vm = .none ∧ cell.slots = #[.ref b, .int j]
theorem LamF.lt {Z : State} {h : Heap} {a b : Addr} {σ : Lambda.Shape} {j : Int32} (F : LamF Z h a σ b j) : a < h.size := by
  obtain ⟨_, _, _, q, _⟩ := F; exact (Array.getElem?_eq_some_iff.mp q).1
theorem own_startN {l : Launch} {Z : State} {y : MethodName} {bytes : ByteArray} {maxL : Nat} {ret : Option FieldType} {R : Room} {A : Array Value} {h0 : Heap} {Q : Option Value → Heap → List Loc → Prop} {L0 : Array Slot}
    (hp : plainFor y = true) (hef : ∀ m, entryFrame m A maxL = mkF m 0 L0 [])
    (body : ∀ p e s m below meth c s₁, Z.Warmed39 s.vm → p.tables.exec = Jvm.exec → c.code = bytes → c.maxLocals = maxL → s.vm.findClass y.cls = some m.cls → meth.name = y.name → s.methodNamed? y = some m → meth.sig.returnType = ret → Stand p l e R s m A below meth c s₁ [] 0 0 → s₁.heap = h0 → EN p l e R s m A below meth c s₁ L0 ret Q) :
    MF l Z y bytes maxL ret R A h0 Q := by
  refine MetFree.of_bodySF hp hisR ?_
  intro p e s m args below meth c s₁ Bd hml0 hP hK
  obtain ⟨rfl, hZ, hh⟩ := hP
  obtain ⟨v, T, h, L, k, j, X, rfl, hkj, hv, hst, hQ⟩ := body p e s m below meth c s₁ hZ Bd.exec Bd.bytes hml0 (findClass_of_methodNamed Bd.named) (name_of_methodNamed Bd.named Bd.method).1 Bd.named Bd.returns (Stand.of_body Bd) (hst0 Bd.state hh)
  obtain ⟨fs, hr, hrun, hended, hW, hsame⟩ := X.leave (v := v) (fun h => hv (Bd.returns ▸ h))
  exact ⟨_, _, castTop (hef m) (hst fs hr), hrun, hended, _, _, rfl, hQ, ⟨_, rfl⟩, hW, hsame.mono hkj.1 hkj.2⟩
section Lam
variable {p : Program} {l : Launch} {e : Env} {R : Room} {s : State} {m : MethodId} {args : Array Value} {below : List Frame} {meth : Method} {c : Code} {T : State} {locs : List Loc} {cells slots : Nat} {Z : State} {a0 : Array Value} {y : MethodName} {own : String} {index maxL : Nat} {bytes : ByteArray} {rm : Room} {A : Array Value} {h : Heap} {Q : Option Value → Heap → List Loc → Prop} {ml : Nat} {σ : Lambda.Shape}
/-- 'invokedynamic' at the site: a new function object -/
theorem own_mk (X : Stand p l e R s m args below meth c T locs cells slots) (hx : p.tables.exec = Jvm.exec) (hZ : Z.Warmed39 s.vm) (hml : c.maxLocals = ml) {x : MethodName} {i : Nat} (hnamed : s.methodNamed? x = some m) (w : B4 a0 Z (.lambdaSite x i index σ)) (w0 : B4 a0 Z (.instantiable "java/lang/Object" 0)) (hok : lamOK σ = true) (hcap : σ.captured = [.object hostC, .int]) (hxc : x.cls = hostC)
    (hE : T.heap = h) (b : Addr) (j : Int32) (Ls : Array Slot) (rest : List Value) (hs : Ls.size = ml) (hd : decode c.code i = .ok (.invokedynamic index, 5)) (hc : cells + 1 ≤ R.cells) (hl : slots + 2 ≤ R.slots) {W : Nat} (hW : cats rest = W) (hw : W + 2 + 3072 ≤ R.locals) :
    ∃ T' h', Stand p l e R s m args below meth c T' locs (cells + 1) (slots + 2) ∧ T'.heap = h' ∧ Ext h h' ∧ LamF Z h' h.size σ b j ∧
      ∀ t, Steps p.tables e below (T'.setTop (mkF m (i + 5) Ls (.ref h.size :: rest))) t → Steps p.tables e below (T.setTop (mkF m i Ls (.int j :: .ref b :: rest))) t := by
  obtain ⟨cK, one, hat⟩ := Cond.lambdaSite_spec w
  obtain ⟨mD, kD, cfD, i0, p0, lk, hmD, hkD, hcfD, hsh, -, hfind, hmade, hcan, hlk⟩ := State.lambdaAt?_spec hat
  have q0 : s.methodNamed? x = Z.methodNamed? x := State.methodNamed?_setVm (s := Z) hZ.alike x
  cases hnamed.symm.trans (q0.trans hmD)
  obtain ⟨kD', hkD', hnameD⟩ := className_of_methodNamed hmD
  cases hkD.symm.trans hkD'
  rw [hxc] at hnameD
  simp only [lamOK, Bool.and_eq_true] at hok
  rcases hlk with ⟨a, cell, -, -, hc0, -⟩ | ⟨rfl, -, -⟩
  · rw [hcap] at hc0; cases hc0
  · obtain ⟨b', nt, desc, site, h1, h2, h3, h4⟩ := Lambda.shapeOf?_site hsh
    obtain ⟨kc, f, hkc, hkind, hty, -⟩ := Jvm.LamKit.made_cap hok.1.1.2 hkD hnameD hmade (Jvm.LamKit.noFields w0 (State.WarmedH.refl Z))
    obtain ⟨kD1, hkD1, heD⟩ := hZ.alike.2.2 _ _ hkD
    obtain ⟨kc1, hkc1, hec⟩ := hZ.alike.2.2 _ _ hkc
    have hty1 : kc1.instanceTypes = #[.object hostC, .int] := by rw [hec, show kc.instanceTypes = _ from hty, hcap]
    have hkind1 : kc1.kind = .ordinary := by rw [hec]; exact hkind
    have hz : ((kc1.instanceTypes.toList.zip [Value.ref b, Value.int j]).map fun (t, v) => narrow t v) = [Value.ref b, Value.int j] := by rw [hty1]; rfl
    have hw' : e.platform.lambdaLinkWords = 3072 := by rw [X.admits.platform]
    have q := X.lambdaMakes hx (g := mkF m i Ls (.int j :: .ref b :: rest)) rfl (by rw [hml]; exact hs) hd (vals := [.ref b, .int j]) (rest := rest) hkD1 (by rw [heD]; exact hfind) (by rw [heD]; exact hcfD) h1 h2 (parseLong_of_parse h3) (by rw [h4, hcap]; rfl) rfl hkc1
      (by rw [hw']; show 2 * 0 + (1 + (1 + cats rest)) + 3072 ≤ R.locals; omega) hc (by rw [hz]; exact hl) (fun k v hv => by
        rw [hz] at hv
        match k, hv with
        | 0, hv => simp at hv; subst hv; simp [State.fitsSlot, State.slotType?, hkc1, hkind1, hty1, fits]
        | 1, hv => simp at hv; subst hv; simp [State.fitsSlot, State.slotType?, hkc1, hkind1, hty1, fits]
        | n + 2, hv => simp at hv)
    rw [hz] at q
    obtain ⟨q1, q2⟩ := q
    subst hE
    refine ⟨_, _, q1, rfl, ⟨by show T.heap.size ≤ (T.heap.push _).size; simp, fun a c h => ?_⟩, ⟨cK, _, ⟨_, kD, hkD, hnameD, hmade, hcan⟩, State.heap_pushCell_size _ _, rfl, rfl, rfl⟩, fun t k => q2 t k⟩
    show (T.heap.push _)[a]? = _
    rw [Array.getElem?_push_lt (Array.getElem?_eq_some_iff.mp h).1]; exact (Array.getElem?_eq_getElem _).symm.trans h
def CL (a0 : Array Value) (Z : State) (own : String) (index : Nat) (σ : Lambda.Shape) (y : MethodName) (bytes : ByteArray) (maxL : Nat) : Prop :=
  B4 a0 Z (.methodLink own index xiC) ∧ B4 a0 Z (.declares xiC) ∧ BT a0 Z (.interfaceMethod xiC.cls xiC.cls xiC.name xiC.desc) ∧ B4 a0 Z (.instanceMethod y) ∧ (∀ s : State, Z.Warmed39 s.vm → s.PrivateAt y) ∧ B4 a0 Z (.code y bytes maxL none) ∧ B4 a0 Z (.initialized y.cls) ∧ B4 a0 Z (.instantiable "java/lang/Object" 0) ∧
  lamOK σ = true ∧ (xiC.cls = σ.iface ∧ xiC.name = σ.name ∧ xiC.desc = σ.sam.toString) ∧ (y.cls = σ.implClass ∧ y.name = σ.implName ∧ y.desc = σ.implDesc.toString) ∧ NH y.cls ∧ σ.implItf = false ∧ AR y.desc 2
/-- 'accept' on the function object: the forwarder runs, and in it the lambda's body -/
theorem own_cL (X : Stand p l e R s m args below meth c T locs cells slots) (hx : p.tables.exec = Jvm.exec) (hZ : Z.Warmed39 s.vm) (hown : s.vm.findClass own = some m.cls) (hml : c.maxLocals = ml)
    (w : CL a0 Z own index σ y bytes maxL) (hM : MF l Z y bytes maxL none rm A h Q) (hE : T.heap = h) {a b u : Addr} {j : Int32} (F : LamF Z h a σ b j) (Eb : Exa Z h b hostC) (Eu : Exa Z h u vsC)
    (pc : Nat) (Ls : Array Slot) (rest : List Value) (W : Nat) {count : Nat} (hs : Ls.size = ml) (hd : decode c.code pc = .ok (.invokeinterface index count, 5))
    (hr : rm.frames + 2 ≤ R.frames ∧ W + 13 + ((maxL + 11) + rm.locals) ≤ R.locals ∧ cells + rm.cells ≤ R.cells ∧ slots + rm.slots ≤ R.slots) (hQv : ∀ v h L, Q v h L → v = none) (hA : #[.ref b, .int j, .ref u] = A := by rfl) (hc : cats rest = W := by rfl) :
    AF p l e R s m args below meth c T locs cells slots pc 5 Ls (.ref u :: .ref a :: rest) rest rm Q := by
  obtain ⟨w1, w2, w3, w4, w5, w6, w7, w8, hok, hxi, hy, hnh, hif, har⟩ := w
  subst hA hc
  obtain ⟨cK, cell, hmd, hcell, rfl, hvm, hsl⟩ := F
  simp only [lamOK, Bool.and_eq_true] at hok
  obtain ⟨⟨⟨hok1, hok2⟩, hok3⟩, hok4⟩ := hok
  -- the interface's method and the forwarder, at the start's tables
  obtain ⟨kZ, mZ, hkZ, hmZ, hpub, habs, hsel⟩ := Jvm.LamKit.madeSelects hmd hok1 w3.1 hxi
  obtain ⟨r0, r, hnZ, hrmZ, hstR, hsigR⟩ := Cond.declares_spec w2
  obtain ⟨cL, kL, r1, hcL, hkL, hiL, -, -⟩ := Cond.interfaceMethod_spec w3.1
  have hr0 : r0.cls = cL := Option.some.inj ((findClass_of_methodNamed hnZ).symm.trans hcL)
  obtain ⟨hasg, hsel', hway⟩ := hsel r0 r hnZ hrmZ
  obtain ⟨d, dk, hdZ, hdn, hmade, -⟩ := hmd
  obtain ⟨kS, tk, file, methk, ck, toy, t, nt, hkS, hpn, hfile, hidx, hnt, hmk, hck, hbytes, hmlK, hlk, hfl, hretk, htoy, htk, hlook, hready, hclsR⟩ := Jvm.LamKit.made_static hok1 hdZ hdn hmade
  cases hkZ.symm.trans hkS
  cases hmZ.symm.trans hmk
  have hO := Jvm.LamKit.noFields w8 (State.WarmedH.refl Z)
  obtain ⟨k2, f0, hk2, -, -, hf0, hf0s, hf0i⟩ := Jvm.LamKit.made_cap hok2 hdZ hdn hmade hO
  obtain ⟨k3, f1, hk3, -, -, hf1, hf1s, hf1i⟩ := Jvm.LamKit.made_cap hok3 hdZ hdn hmade hO
  obtain ⟨cu, ku, hu1, hu2, hu3, hu4, -⟩ := Eu
  obtain ⟨cb, kb, hb1, hb2, hb3, hb4, -⟩ := Eb
  obtain ⟨k4, hk4, hk4r⟩ := own_mcast hdZ hdn hmade hok4 hu2
  obtain ⟨t9, tk9, ht9, htk9, hti9⟩ := own_mitf hmade
  cases htoy.symm.trans ht9
  cases htk.symm.trans htk9
  rw [hif] at hti9
  -- the lambda's body
  obtain ⟨mT, methT, hmT, hmethT, hstT, habT⟩ := Cond.instanceMethod_spec w4
  obtain ⟨methT', cT, hmethT', -, -, -, -, -, -, hsigT⟩ := Cond.code_spec hmT w6
  cases hmethT.symm.trans hmethT'
  have hfT : Z.vm.findClass y.cls = some mT.cls := findClass_of_methodNamed hmT
  have hto : toy = mT.cls := Option.some.inj (htoy.symm.trans (by rw [← hy.1]; exact hfT))
  subst hto
  have htT : t = mT := by
    have h1 : Z.methodFound? y.cls y.name y.desc = some mT := State.methodFound?_of_named hmT hnh
    rw [hy.1, hy.2.1, hy.2.2] at h1
    simp only [State.methodFound?, htoy, htk, Option.bind_eq_bind, Option.bind_some] at h1
    rw [hlook] at h1
    exact Option.some.inj h1
  subst htT
  -- the call, at the body's own start
  have hn : s.methodNamed? xiC = some r0 := (show s.methodNamed? xiC = Z.methodNamed? xiC from State.methodNamed?_setVm (s := Z) hZ.alike xiC).trans hnZ
  obtain ⟨kL', hkL', heL⟩ := hZ.alike.2.2 _ _ hkL
  obtain ⟨kZ', hkZ', heZ⟩ := hZ.alike.2.2 _ _ hkZ
  obtain ⟨vm₁, X₁, st₁⟩ := X.invokeinterface hx hown (mvT hZ w1 rfl) hn (by rw [hZ.alike.method?]; exact hrmZ) hstR (by rw [hr0]; exact hkL') (by rw [heL]; exact hiL) (by decide) (a := a) (cell := cell) (by rw [hE]; exact hcell) (fun z hz => by rw [hvm] at hz; cases hz) hkZ'
    (by rw [hZ.alike.assignable]; exact hasg) (m' := ⟨cell.cls, 1⟩) (meth' := mZ) (by rw [Launch.admits_selectMethod X.admits, hZ.alike.selectMethod]; exact hsel') (by rw [hZ.alike.method?]; exact hmZ) (by rw [hZ.alike.superclasses]; simp only [hZ.alike.declaredIn]; exact hway) hpub habs
    (g := mkF m pc Ls (.ref u :: .ref a :: rest)) rfl (argsL := [.ref u]) (rest := rest) (by rw [← show (⟨[.object "java/lang/Object"], none⟩ : MethodDescriptor) = r.sig from Option.some.inj ((show parseMethodDescriptor xiC.desc = _ from by decide +kernel).symm.trans hsigR)]; rfl) rfl hd
  have hZ1 : Z.Warmed39 vm₁ := wtrans (U := T.setVm vm₁) hZ X₁.warmed
  have al := hZ1.alike
  obtain ⟨kF, hkF, heF⟩ := al.2.2 _ _ hkZ
  obtain ⟨Y₀, hin⟩ := X₁.into (g := mkF m pc Ls rest) rfl (by rw [hml]; exact hs) hd #[.ref a, .ref u] (mk := ⟨cell.cls, 1⟩) (methk := mZ) (ck := ck) (R' := { frames := rm.frames + 1, cells := rm.cells, slots := rm.slots, locals := (maxL + 11) + rm.locals })
    (by show vm₁.method? _ = _; rw [al.method?]; exact hmZ) hck hlk (State.plainMethod.of_name fun k' hk' => by cases hkF.symm.trans hk'; rw [heF]; exact hpn) (by show rm.frames + 1 + 1 ≤ _; omega) (by rw [hmlK]; show 2 * 0 + cats rest + (2 + 11) + (maxL + 11 + rm.locals) ≤ _; omega) hr.2.2.1 hr.2.2.2
  rw [hmlK, show entryFrame ⟨cell.cls, 1⟩ #[.ref a, .ref u] 2 = mkF ⟨cell.cls, 1⟩ 0 #[.val (.ref a), .val (.ref u)] [] from rfl] at Y₀ hin
  generalize hU : ((T.setVm vm₁).setTop (mkF m pc Ls rest)).pushFrame (.java (mkF ⟨cell.cls, 1⟩ 0 #[.val (.ref a), .val (.ref u)] [])) = U at Y₀ hin
  have hvmU : U.vm = vm₁ := by rw [← hU]; rfl
  have hhU : U.heap = h := by rw [← hU]; exact hE
  generalize hs' : (T.setVm vm₁).calling (mkF m pc Ls rest) ⟨cell.cls, 1⟩ #[.ref a, .ref u] = s' at Y₀
  have hvm' : s'.vm = vm₁ := by rw [← hs']; rfl
  have hZ' : Z.Warmed39 s'.vm := by rw [hvm']; exact hZ1
  -- the forwarder's loads
  obtain ⟨q1, q1i, q1k, hq1, hq1r, hq1k, hq1f⟩ := hf0
  obtain ⟨q2, q2i, q2k, hq2, hq2r, hq2k, hq2f⟩ := hf1
  obtain ⟨z1, hz1, hz1r, -, hz1f, -⟩ := own_kept hZ1 hq1 hq1r
  obtain ⟨z2, hz2, hz2r, -, hz2f, -⟩ := own_kept hZ1 hq2 hq2r
  obtain ⟨z3, hz3, hz3r, -⟩ := own_kept hZ1 hk4 hk4r
  obtain ⟨q5, hq5, hq5r⟩ := hready
  obtain ⟨z5, hz5, hz5r, -⟩ := own_kept hZ1 hq5 hq5r
  obtain ⟨q6, hq6, hq6r⟩ := hclsR
  obtain ⟨z6, hz6, hz6r, hz6c, -⟩ := own_kept hZ1 hq6 hq6r
  cases hq1.symm.trans hq1k
  cases hq2.symm.trans hq2k
  cases hkZ.symm.trans hq6
  obtain ⟨ku', hku', -⟩ := al.2.2 _ _ hu3
  obtain ⟨tk', htk', hetk⟩ := al.2.2 _ _ htk
  have c0 : Steps p.tables e (.java (mkF m pc Ls rest) :: below) (U.setTop (mkF ⟨cell.cls, 1⟩ 0 #[.val (.ref a), .val (.ref u)] [])) (U.setTop (mkF ⟨cell.cls, 1⟩ 1 #[.val (.ref a), .val (.ref u)] [.ref a])) :=
    XS.aloadN (Y₀.here) hx rfl (by rw [hbytes]; exact fd0) rfl rfl (Steps.refl _)
  have c1 := Y₀.getfieldR hx (g := mkF ⟨cell.cls, 1⟩ 1 #[.val (.ref a), .val (.ref u)] [.ref a]) rfl (index := 17) (cF := cell.cls) (field := f0) (cell := cell) (v := .ref b) (rest := []) ⟨z1, q1i, z1, by rw [hvmU]; exact hz1, hz1r, by rw [hvmU]; exact hz1, by rw [hz1f]; exact hq1f⟩ hf0s rfl (by rw [hhU]; exact hcell) (by rw [hvm]; decide) (by rw [hf0i, hsl]; rfl) (by rw [hbytes]; exact fd1) c0
  have c4 : Steps p.tables e (.java (mkF m pc Ls rest) :: below) (U.setTop (mkF ⟨cell.cls, 1⟩ 0 #[.val (.ref a), .val (.ref u)] [])) (U.setTop (mkF ⟨cell.cls, 1⟩ 5 #[.val (.ref a), .val (.ref u)] [.ref a, .ref b])) :=
    c1.trans (XS.aloadN (g := mkF ⟨cell.cls, 1⟩ 4 #[.val (.ref a), .val (.ref u)] [.ref b]) (Y₀.here) hx rfl (by rw [hbytes]; exact fd4) rfl rfl (Steps.refl _))
  have c5 := Y₀.getfieldR hx (g := mkF ⟨cell.cls, 1⟩ 5 #[.val (.ref a), .val (.ref u)] [.ref a, .ref b]) rfl (index := 19) (cF := cell.cls) (field := f1) (cell := cell) (v := .int j) (rest := [.ref b]) ⟨z2, q2i, z2, by rw [hvmU]; exact hz2, hz2r, by rw [hvmU]; exact hz2, by rw [hz2f]; exact hq2f⟩ hf1s rfl (by rw [hhU]; exact hcell) (by rw [hvm]; decide) (by rw [hf1i, hsl]; rfl) (by rw [hbytes]; exact fd5) c4
  have c8 : Steps p.tables e (.java (mkF m pc Ls rest) :: below) (U.setTop (mkF ⟨cell.cls, 1⟩ 0 #[.val (.ref a), .val (.ref u)] [])) (U.setTop (mkF ⟨cell.cls, 1⟩ 9 #[.val (.ref a), .val (.ref u)] [.ref u, .int j, .ref b])) :=
    c5.trans (XS.aloadN (g := mkF ⟨cell.cls, 1⟩ 8 #[.val (.ref a), .val (.ref u)] [.int j, .ref b]) (Y₀.here) hx rfl (by rw [hbytes]; exact fd8) rfl rfl (Steps.refl _))
  have c9 := Y₀.checkcastR hx (g := mkF ⟨cell.cls, 1⟩ 9 #[.val (.ref a), .val (.ref u)] [.ref u, .int j, .ref b]) rfl (index := 23) (cT := cu.cls) (x := .ref u) (rest := [.int j, .ref b]) ⟨z3, by rw [hvmU]; exact hz3, hz3r⟩ rfl
    (Or.inr ⟨u, cu, ku', ku', rfl, by rw [hhU]; exact hu1, (fun k hk => by rw [hk] at hu4; cases hu4), by rw [hvmU]; exact hku', by rw [hvmU]; exact hku', by rw [hvmU, al.assignable]; exact Jvm.Free.SB.assignable_self _ _⟩) (by rw [hbytes]; exact fd9) c8
  -- the lambda's body
  have hpriv : methT.isPrivate = true := w5 Z (State.Warmed39.refl Z) t methT hmT hmethT
  have hmU : U.vm.method? t = some methT := by rw [hvmU, al.method?]; exact hmethT
  have hnU : U.methodNamed? y = some t := by
    have q : (Z.setVm vm₁).methodNamed? y = some t := (State.methodNamed?_setVm (s := Z) al y).trans hmT
    rw [← hU]; exact q
  have hsp : signaturePolymorphic tk' methT = false := by
    obtain ⟨kT, hkT, hnameT⟩ := className_of_methodNamed hmT
    cases htk.symm.trans hkT
    have hn' : tk'.name = y.cls := by rw [hetk]; exact hnameT
    simp [signaturePolymorphic, hn', hnh.1, hnh.2]
  have hK := backOf (l := l) (R := { frames := rm.frames + 1, cells := rm.cells, slots := rm.slots, locals := (maxL + 11) + rm.locals }) (p := p) (e := e) (below := .java (mkF m pc Ls rest) :: below) (s := s') (args := #[.ref a, .ref u]) (len := 3) (W := 0) hM hZ' w6 w7 (Nat.le_refl _) (by show 0 + (maxL + 11) + rm.locals ≤ (maxL + 11) + rm.locals; omega)
  obtain ⟨v, ⟨U', ls, cc, sl⟩, Y₁, ⟨L, hq, hl1, hl2, hl3⟩, cR⟩ := Y₀.virtualR hx (g := mkF ⟨cell.cls, 1⟩ 12 #[.val (.ref a), .val (.ref u)] [.ref u, .int j, .ref b]) rfl (by rw [hmlK]; rfl) (index := 29) (a := b) (y := y) (r := t) (t := t) (kr := tk') (kt := tk') (methr := methT) (metht := methT) (cell := cb) (argsL := [.int j, .ref u]) (rest := [])
    ⟨z6, file, 25, nt, t.cls, tk', by rw [hvmU]; exact hz6, by rw [hz6c]; exact hfile, hidx, ⟨z6, by rw [hvmU]; exact hz6, hz6r⟩, by rw [hvmU]; exact htk', by rw [hetk]; exact hti9⟩ ⟨z5, by rw [hvmU]; exact hz5, hz5r⟩ (by rw [hvmU]; exact htk') hmU hsp hstT (own_ar har rfl _ hsigT) rfl (by rw [hhU]; exact hb1) (fun k hk => by rw [hk] at hb4; cases hb4)
    (selectMethod_private hmU hpriv) hmU habT (by rw [hvmU]; exact htk') (by rw [hetk]; exact hti9) hnU hK (by show 2 * 0 + 0 ≤ 0; omega) ⟨rfl, hhU, by show 0 + rm.cells ≤ rm.cells; omega, by show 0 + rm.slots ≤ rm.slots; omega⟩ (by rw [hbytes]; exact fd12) c9
  dsimp only [Pt.U, Pt.locs, Pt.cells, Pt.slots] at Y₁ hq hl1 hl2 hl3 cR
  subst hl1 hl2 hl3
  cases hQv _ _ _ hq
  obtain ⟨fs, hleave, -, hended, hWe, hsame⟩ := Y₁.leave (v := none) (fun _ => rfl) hlk
  subst hs'
  obtain ⟨T', X', -, -, ht⟩ := X₁.outOf (g := mkF m pc Ls rest) (len := 5) rfl hd hended hWe hsame
  have hheap : T'.heap = U'.heap := by
    have q : (U'.setFrames fs).heap = (T'.setTop (mkF m (pc + 5) Ls rest)).heap := congrArg State.heap ht
    exact q.symm
  rw [← hheap] at hq
  refine ⟨none, T', _, by simpa using X', hq, fun tt k => st₁ _ fun acts => ?_⟩
  rw [show (doInvoke e ((T.setVm vm₁).setTop (mkF m pc Ls rest)) acts ⟨cell.cls, 1⟩ #[.ref a, .ref u]).1 = _ from hin acts]
  refine (Steps.weaken (mid := [.java (mkF m pc Ls rest)]) (cR.trans (Y₁.returnOut hx (pc := 15) (Ls := #[.val (.ref a), .val (.ref u)]) hretk (by rw [hbytes]; exact fd15) hleave))).trans ?_
  rw [ht]
  exact k
end Lam
def CR (a0 : Array Value) (Z : State) (own : String) (index : Nat) (y : MethodName) (na : Nat) (k : Jvm.Cond) : Prop :=
  y.name = "<init>" ∧ B4 a0 Z (.methodRef own index y) ∧ B4 a0 Z (.instanceMethod y) ∧ B4 a0 Z k ∧ B4 a0 Z (.initialized y.cls) ∧ NH y.cls ∧ AR y.desc na
/-- a constructor whose reference stands resolved -/
theorem own_cR {p : Program} {l : Launch} {e : Env} {R : Room} {s : State} {m : MethodId} {args : Array Value} {below : List Frame} {meth : Method} {c : Code} {T : State} {locs : List Loc} {cells slots : Nat} {Z : State} {a0 : Array Value} {y : MethodName} {own : String} {index na maxL : Nat} {bytes : ByteArray} {rm : Room} {A : Array Value} {h : Heap} {Q : Option Value → Heap → List Loc → Prop} {ml : Nat}
    (X : Stand p l e R s m args below meth c T locs cells slots) (hx : p.tables.exec = Jvm.exec) (hZ : Z.Warmed39 s.vm) (hown : s.vm.findClass own = some m.cls) (hml : c.maxLocals = ml)
    (w : CR a0 Z own index y na (.code y bytes maxL none)) (hM : MF l Z y bytes maxL none rm A h Q) (hE : T.heap = h) (b : Addr) (pc : Nat) (Ls : Array Slot) (argsL rest : List Value) (W : Nat)
    (hs : Ls.size = ml) (hd : decode c.code pc = .ok (.invokespecial index, 3)) (hr : RM W maxL cells slots rm R) (hn : argsL.length = na := by rfl) (hA : (Value.ref b :: argsL).toArray = A := by rfl) (hc : cats rest = W := by rfl) :
    AF p l e R s m args below meth c T locs cells slots pc 3 Ls (argsL.reverse ++ .ref b :: rest) rest rm Q := by
  obtain ⟨w0, w1, w2, w9, w10, w11, w12⟩ := w
  have hZT : Z.Warmed39 T.vm := wtrans hZ X.warmed
  obtain ⟨mT, methT, hmT, hmethT, hstT, habT⟩ := Cond.instanceMethod_spec w2
  obtain ⟨methT', cT, hmethT', -, -, -, -, -, -, hsigT⟩ := Cond.code_spec hmT w9
  cases hmethT.symm.trans hmethT'
  have hcur : (Z.setVm T.vm).vm.findClass own = some m.cls := by show T.vm.findClass own = _; rw [X.warmed.alike.findClass]; exact hown
  obtain ⟨m', c', hf, hready, hfind, hnr⟩ := Cond.methodRef_named e hcur (Cond.methodRef_warmed39 hZT hmT w11 w1)
  have hmT' : (Z.setVm T.vm).methodNamed? y = some mT := (State.methodNamed?_setVm (s := Z) hZT.alike y).trans hmT
  cases (State.methodFound?_of_named hmT' w11).symm.trans hf
  have hc' : c' = mT.cls := Option.some.inj (hfind.symm.trans (findClass_of_methodNamed hmT'))
  subst hc'
  obtain ⟨kT, hkT, -⟩ := className_of_methodNamed hmT'
  have hmU : T.vm.method? mT = some methT := by rw [hZT.alike.method?]; exact hmethT
  have hfound : lookupSpecial T.vm mT.cls "<init>" methT.desc = .method mT := by
    have q := lookupSpecial_of_named hmT' hmU hstT
    rw [w0, ← (name_of_methodNamed hmT hmethT).2] at q
    exact q
  have hK := backOf (l := l) (R := R) (p := p) (e := e) (below := below) (s := s) (args := args) (len := 3) (W := W) hM hZ w9 w10 hr.1 hr.2.1
  obtain ⟨v, ⟨T', L', k', n'⟩, X', ⟨Lc, hQ, hl, hy, hz⟩, hsteps⟩ := hK m meth c ⟨T, locs, cells, slots⟩ (mkF m pc Ls rest) (.invokespecial index) mT (Value.ref b :: argsL).toArray X rfl (by rw [hml]; exact hs) hd (by show 2 * 0 + cats rest ≤ W; omega) hmT' ⟨hA, hE, hr.2.2.1, hr.2.2.2⟩
  dsimp only [Pt.U, Pt.locs, Pt.cells, Pt.slots] at X' hl hy hz hsteps hQ
  subst hl hy hz
  refine ⟨v, T', Lc, X', hQ, fun t k => ?_⟩
  jvm_step X.here [hx, hd, invokespecial.wp_init (e := e) (s := T) (f := mkF m pc Ls (argsL.reverse ++ .ref b :: rest)) (m := mT) (k := kT) (meth := methT) (a := b) (args := argsL) (rest := rest) X.here.top hnr hready hkT hmU ((name_of_methodNamed hmT hmethT).1.trans w0) hstT habT hfound (own_ar w12 hn _ hsigT) rfl]
  intro acts
  rw [doInvoke_state]
  exact hsteps.trans k
/-- an array of which one place is known -/
def Asl (Z : State) (h : Heap) (a : Addr) (k : ClassId) (ty : FieldType) (n j : Int32) (v : Value) : Prop := (¬ j < 0 ∧ j < n) ∧ ∃ c : Cell, Arr Z h a c ty ∧ c.cls = k ∧ c.slots.size = n.toNatClampNeg ∧ ¬ n < 0 ∧ c.slots[j.toNatClampNeg]? = some v
section Asl
variable {p : Program} {l : Launch} {e : Env} {R : Room} {s : State} {m : MethodId} {args : Array Value} {below : List Frame} {meth : Method} {c : Code} {T : State} {locs : List Loc} {cells slots : Nat} {Z : State} {h h' : Heap} {a b : Addr} {k : ClassId} {ty : FieldType} {n j : Int32} {v w : Value} {sl : Nat} {ws : List Addr} {pc : Nat} {Ls : Array Slot}
theorem Asl.lt (F : Asl Z h a k ty n j v) : a < h.size := by obtain ⟨-, c, A, -⟩ := F; exact A.lt
theorem Asl.ext (F : Asl Z h a k ty n j v) (E : Ext h h') : Asl Z h' a k ty n j v := by obtain ⟨q, c, A, r⟩ := F; exact ⟨q, c, A.ext E, r⟩
theorem Asl.other (F : Asl Z h b k ty n j v) (W : Wr h h' a sl w) (q : b ≠ a) : Asl Z h' b k ty n j v := by obtain ⟨u, c, A, r⟩ := F; exact ⟨u, c, A.other W q, r⟩
theorem Asl.keep (F : Asl Z h a k ty n j v) (K : Keep h h' ws) (q : a ∉ ws) : Asl Z h' a k ty n j v := by obtain ⟨u, c, A, r⟩ := F; exact ⟨u, c, ⟨K.2.1 a c A.1 q, A.2⟩, r⟩
theorem Asl.of_arv {vs : List Value} {d : Value} (F : Arv Z h a k ty n vs d) (q : ¬ j < 0 ∧ j < n) (hv : vs.getD j.toNatClampNeg d = v) : Asl Z h a k ty n j v := by
  obtain ⟨c, A, q1, S, M, H, -⟩ := F
  exact ⟨q, c, A, q1, S, M, H.at (inb_of S q) hv⟩
theorem own_lA (X : Stand p l e R s m args below meth c T locs cells slots) (hx : p.tables.exec = Jvm.exec) (hZ : Z.Warmed39 s.vm) (hE : T.heap = h) (F : Asl Z h a k ty n j v) {rest : List Value} {t : State} (hty : ty.isReference = true)
    (hd : decode c.code pc = .ok (.aaload, 1)) (K : Steps p.tables e below (T.setTop (mkF m (pc + 1) Ls (v :: rest))) t) : Steps p.tables e below (T.setTop (mkF m pc Ls (.int j :: .ref a :: rest))) t := by
  obtain ⟨hj, cl, Ar, -, S, -, Hs⟩ := F
  exact X.aaload hx (by rw [hE]; exact Ar.1) (State.isArrayOf_alike hZ.alike Ar.2.1) hty Ar.2.2 (inb_of S hj) Hs (g := mkF m pc Ls (.int j :: .ref a :: rest)) rfl rfl hd _ K
theorem own_sA (X : Stand p l e R s m args below meth c T locs cells slots) (hx : p.tables.exec = Jvm.exec) (hZ : Z.Warmed39 s.vm) (hE : T.heap = h) (F : Asl Z h a k ty n j v) (w : Value) (hty : ty.isReference = true) (hw : w.isRef = true) (hS : ∀ cl, Arr Z h a cl ty → cl.cls = k → Sto Z h a w) (rest : List Value) (pc : Nat) (Ls : Array Slot)
    (hd : decode c.code pc = .ok (.aastore, 1)) :
    ∃ T' h', Stand p l e R s m args below meth c T' (locs ++ [⟨a, j.toNatClampNeg⟩]) cells slots ∧ T'.heap = h' ∧ Wr h h' a j.toNatClampNeg w ∧ Asl Z h' a k ty n j w ∧ ∀ t, Steps p.tables e below (T'.setTop (mkF m (pc + 1) Ls rest)) t → Steps p.tables e below (T.setTop (mkF m pc Ls (w :: .int j :: .ref a :: rest))) t := by
  obtain ⟨hj, cl, Ar, q, S, M, Hs⟩ := F
  obtain ⟨T', h', X', e', W, st⟩ := stR X hx hZ hE Ar (j := j) (inb_of S hj) hty (hS cl Ar q) (g := mkF m pc Ls (w :: .int j :: .ref a :: rest)) rfl rfl hd
  have hlt : j.toNatClampNeg < cl.slots.size := Nat.lt_of_not_le fun y => inb_of S hj (Or.inr y)
  exact ⟨T', h', X', e', W, ⟨hj, _, Ar.same W, q, by rw [sz_set]; exact S, M, by simp [Cell.setSlot, hlt]⟩, st⟩
end Asl
def own_jmin (x y : Int64) : Int64 := if y < x then y else x
def own_jmax (x y : Int64) : Int64 := if x < y then y else x
theorem own_mn (x y : Int64) : (own_jmin x y).toInt ≤ x.toInt ∧ (own_jmin x y).toInt ≤ y.toInt := by
  unfold own_jmin
  split <;> (rename_i h; rw [Int64.lt_iff_toInt_lt] at h; omega)
theorem own_mx (x y : Int64) : x.toInt ≤ (own_jmax x y).toInt ∧ y.toInt ≤ (own_jmax x y).toInt := by
  unfold own_jmax
  split <;> (rename_i h; rw [Int64.lt_iff_toInt_lt] at h; omega)
theorem own_l0 : (0 : Int64).toInt = 0 := by decide
theorem own_l1 : (1 : Int64).toInt = 1 := by decide
theorem own_l48 : (281474976710656 : Int64).toInt = 281474976710656 := by decide
theorem own_s1 {l : Int64} (a : ¬ l < (0 : Int64)) : (l - (1 : Int64)).toInt = l.toInt - 1 := by
  rw [Int64.lt_iff_toInt_lt, own_l0] at a
  have := c_lsub l 1; have := rng64 (l - 1); have := rng64 l; have := own_l1
  omega
theorem own_a1 {h : Int64} (a : ¬ (281474976710656 : Int64) < h) : (h + (1 : Int64)).toInt = h.toInt + 1 := by
  rw [Int64.lt_iff_toInt_lt, own_l48] at a
  have := c_ladd h 1; have := rng64 (h + 1); have := rng64 h; have := own_l1
  omega
section Ar
variable {l h H : Int64}
theorem own_p1 (a : ¬ l < (0 : Int64)) (b : ¬ h < l) : l - (1 : Int64) < h := by
  rw [Int64.lt_iff_toInt_lt] at b ⊢; have := own_s1 a; omega
theorem own_p2 (x : Int64) (a : ¬ l < (0 : Int64)) : own_jmin (l - (1 : Int64)) x < own_jmax (0 : Int64) l := by
  rw [Int64.lt_iff_toInt_lt]; have := own_s1 a; have := own_mn (l - 1) x; have := own_mx 0 l; omega
theorem own_p5 (x : Int64) (a : ¬ l < (0 : Int64)) : own_jmin x (l - (1 : Int64)) < own_jmax l (0 : Int64) := by
  rw [Int64.lt_iff_toInt_lt]; have := own_s1 a; have := own_mn x (l - 1); have := own_mx l 0; omega
theorem own_p3 (x y : Int64) (a : ¬ (281474976710656 : Int64) < h) : own_jmin x h < own_jmax (h + (1 : Int64)) y := by
  rw [Int64.lt_iff_toInt_lt]; have := own_a1 a; have := own_mn x h; have := own_mx (h + 1) y; omega
theorem own_p6 (x y : Int64) (a : ¬ (281474976710656 : Int64) < h) : own_jmin h x < own_jmax y (h + (1 : Int64)) := by
  rw [Int64.lt_iff_toInt_lt]; have := own_a1 a; have := own_mn h x; have := own_mx y (h + 1); omega
theorem own_p4 (x y : Int64) (a : H < l) : own_jmin H x < own_jmax y l := by
  rw [Int64.lt_iff_toInt_lt] at *; have := own_mn H x; have := own_mx y l; omega
theorem own_p7 (x y : Int64) (a : H < l) : own_jmin x H < own_jmax l y := by
  rw [Int64.lt_iff_toInt_lt] at *; have := own_mn x H; have := own_mx l y; omega
theorem own_p8 (a : H < l) (b : ¬ h < l) : H < h := by
  rw [Int64.lt_iff_toInt_lt] at *; omega
theorem own_p9 (a : ¬ (281474976710656 : Int64) < h) (b : ¬ H < h + (1 : Int64)) : h < H := by
  have := own_a1 a
  rw [Int64.lt_iff_toInt_lt] at b ⊢; omega
theorem own_p10 (b : ¬ h < l) : ¬ (own_jmin h h < own_jmax l l) := by
  unfold own_jmin own_jmax
  split <;> split <;> exact b
theorem own_p11 (a : ¬ (281474976710656 : Int64) < h) (b : ¬ H < h + (1 : Int64)) : ¬ H < h := by
  have := own_a1 a
  rw [Int64.lt_iff_toInt_lt] at b ⊢; omega
theorem own_p12 (a : ¬ l < (0 : Int64)) (b : ¬ h < l) : ¬ h < l - (1 : Int64) := by
  rw [Int64.lt_iff_toInt_lt] at b ⊢; have := own_s1 a; omega
theorem own_p13 (a : ¬ l < (0 : Int64)) (b : ¬ h < l) : ¬ h < (0 : Int64) := by
  rw [Int64.lt_iff_toInt_lt] at *; omega
theorem own_p14 (a : H < l) (b : ¬ h < l) : ¬ h < H := by
  rw [Int64.lt_iff_toInt_lt] at *; omega
theorem own_p15 : ¬ h < h := by
  rw [Int64.lt_iff_toInt_lt]; omega
end Ar
theorem own_low (x : Int64) : 0 ≤ (x &&& (65535 : Int64)).toInt ∧ (x &&& (65535 : Int64)).toInt ≤ 65535 := by
  have h := c_maskL x 65535 16 (by decide) (by decide)
  rw [h]; omega
theorem own_high (x y : Int64) : ((x &&& (65535 : Int64)) + (y &&& (65535 : Int64))).toInt = (x &&& (65535 : Int64)).toInt + (y &&& (65535 : Int64)).toInt := by
  have := own_low x; have := own_low y
  have := c_ladd (x &&& 65535) (y &&& 65535); have := rng64 ((x &&& 65535) + (y &&& 65535))
  omega
theorem own_b1 (x : Int64) : ¬ ((x &&& (65535 : Int64)) < (0 : Int64)) := by
  rw [Int64.lt_iff_toInt_lt, own_l0]; have := own_low x; omega
theorem own_b2 (x y : Int64) : ¬ (((x &&& (65535 : Int64)) + (y &&& (65535 : Int64))) < (x &&& (65535 : Int64))) := by
  rw [Int64.lt_iff_toInt_lt]; have := own_high x y; have := own_low y; omega
theorem own_b3 (x y : Int64) : ¬ ((281474976710656 : Int64) < ((x &&& (65535 : Int64)) + (y &&& (65535 : Int64)))) := by
  rw [Int64.lt_iff_toInt_lt, own_l48]; have := own_high x y; have := own_low x; have := own_low y; omega
theorem own_ix (x : Int32) : ¬ (((x &&& (2147483647 : Int32)) % (12 : Int32)) < (0 : Int32)) ∧ ((x &&& (2147483647 : Int32)) % (12 : Int32)) < (12 : Int32) := by
  have e1 := c_mask x 2147483647 31 (by decide) (by decide)
  have e2 := (c_irem (x &&& (2147483647 : Int32)) 12 12 (by decide)).1 (by omega)
  have l0 : (0 : Int32).toInt = 0 := by decide
  have l12 : (12 : Int32).toInt = 12 := by decide
  rw [Int32.lt_iff_toInt_lt, Int32.lt_iff_toInt_lt]; omega
theorem own_ch (x : Int64) : ¬ ((255 : Int32) < (((((x.toUInt64 >>> ((16 : Int32) &&& 0x3f).toInt64.toUInt64).toInt64) &&& (255 : Int64)).toInt32).toUInt32.toUInt16.toUInt32.toInt32)) := by
  generalize (x.toUInt64 >>> ((16 : Int32) &&& 0x3f).toInt64.toUInt64).toInt64 = y
  have h := c_maskL y 255 8 (by decide) (by decide)
  generalize y &&& (255 : Int64) = z at h ⊢
  have h2 := c_l2i z; have h3 := rng32 z.toInt32
  have e : z.toInt32.toInt = z.toInt := by omega
  have hz : 0 ≤ z.toInt32.toInt ∧ z.toInt32.toInt ≤ 255 := by rw [e, h]; omega
  have h4 := c_i2c z.toInt32
  have l : (255 : Int32).toInt = 255 := by decide
  rw [Int32.lt_iff_toInt_lt, l]
  omega
theorem own_ix12 (x : Int32) : let r := (x &&& (2147483647 : Int32)) % (12 : Int32); r = 0 ∨ r = 1 ∨ r = 2 ∨ r = 3 ∨ r = 4 ∨ r = 5 ∨ r = 6 ∨ r = 7 ∨ r = 8 ∨ r = 9 ∨ r = 10 ∨ r = 11 := by
  have h := own_ix x
  intro r
  have hr : r = (x &&& (2147483647 : Int32)) % (12 : Int32) := rfl
  rw [← hr] at h
  rw [Int32.lt_iff_toInt_lt, Int32.lt_iff_toInt_lt] at h
  have l0 : (0 : Int32).toInt = 0 := by decide
  have l12 : (12 : Int32).toInt = 12 := by decide
  have k : ∀ n : Int32, r.toInt = n.toInt → r = n := fun n h => Int32.toInt_inj.mp h
  have hd : r.toInt = 0 ∨ r.toInt = 1 ∨ r.toInt = 2 ∨ r.toInt = 3 ∨ r.toInt = 4 ∨ r.toInt = 5 ∨ r.toInt = 6 ∨ r.toInt = 7 ∨ r.toInt = 8 ∨ r.toInt = 9 ∨ r.toInt = 10 ∨ r.toInt = 11 := by omega
  rcases hd with h | h | h | h | h | h | h | h | h | h | h | h
  · exact Or.inl (k 0 h)
  · exact Or.inr (Or.inl (k 1 h))
  · exact Or.inr (Or.inr (Or.inl (k 2 h)))
  · exact Or.inr (Or.inr (Or.inr (Or.inl (k 3 h))))
  · exact Or.inr (Or.inr (Or.inr (Or.inr (Or.inl (k 4 h)))))
  · exact Or.inr (Or.inr (Or.inr (Or.inr (Or.inr (Or.inl (k 5 h))))))
  · exact Or.inr (Or.inr (Or.inr (Or.inr (Or.inr (Or.inr (Or.inl (k 6 h)))))))
  · exact Or.inr (Or.inr (Or.inr (Or.inr (Or.inr (Or.inr (Or.inr (Or.inl (k 7 h))))))))
  · exact Or.inr (Or.inr (Or.inr (Or.inr (Or.inr (Or.inr (Or.inr (Or.inr (Or.inl (k 8 h)))))))))
  · exact Or.inr (Or.inr (Or.inr (Or.inr (Or.inr (Or.inr (Or.inr (Or.inr (Or.inr (Or.inl (k 9 h))))))))))
  · exact Or.inr (Or.inr (Or.inr (Or.inr (Or.inr (Or.inr (Or.inr (Or.inr (Or.inr (Or.inr (Or.inl (k 10 h)))))))))))
  · exact Or.inr (Or.inr (Or.inr (Or.inr (Or.inr (Or.inr (Or.inr (Or.inr (Or.inr (Or.inr (Or.inr (k 11 h)))))))))))
theorem own_asl {s : State} {args : Array Value} {t : Term} {w : Addr} {c : Cell} {ty : FieldType} {j k : Int32} {v : Value} (hj : ¬ j < 0 ∧ j < 12) (A : Arr s s.heap w c ty) (hs : c.slots.size < 2 ^ 31 ∧ c.slots.size.toInt32 = 12) (ev : t.eval args s none [] s = some (.ref w)) (hk : j = k)
    (he : (Term.elem t (.int k)).eval args s none [] s = some v) : Asl s s.heap w c.cls ty 12 j v := by
  obtain ⟨cell, h1, -, h3⟩ := elem_at he ev rfl
  cases A.1.symm.trans h1
  subst hk
  exact ⟨hj, c, A, rfl, by rw [← hs.2]; simp only [Int32.toNatClampNeg, len_toInt hs.1]; rfl, by decide, h3⟩
abbrev LV (p1 p2 : Int32) (q3 q4 : Int64) (p5 : Int32) (q6 q7 : Int64) (p8 p9 p10 : Int32) (a11 a12 a13 : Addr) (x y z : Slot) : Array Slot := #[iv p1, iv p2, jv q3, sc, jv q4, sc, iv p5, jv q6, sc, jv q7, sc, iv p8, iv p9, iv p10, rv a11, rv a12, rv a13, iv (1 : Int32), x, y, z]
abbrev o0 : Int32 := 0
abbrev o1 : Int32 := 1
abbrev o2 : Int32 := 2
abbrev o12 : Int32 := 12
abbrev oj0 : Int64 := 0
abbrev lj0 : Value := .long oj0
abbrev vi0 : Value := .int o0
abbrev vi1 : Value := .int o1
abbrev tV : FieldType := .object "shadowsift/core/ValueSet"
theorem wd0 {a0 Z} (hw : HW a0 Z) : B4 a0 Z (.constant s47 (7 : Nat) (2147483647 : Int32)) := wx hw 0 rfl
theorem wd1 {a0 Z} (hw : HW a0 Z) : B4 a0 Z (.constantLong s47 (8 : Nat) (65535 : Int64)) := wx hw 1 rfl
theorem wd2 {a0 Z} (hw : HW a0 Z) : B4 a0 Z (.constantLong s47 (10 : Nat) (255 : Int64)) := wx hw 2 rfl
theorem wd5 {a0 Z} (hw : HW a0 Z) : B4 a0 Z (.initialized s22) := wx hw 5 rfl
theorem wd7 {a0 Z} (hw : HW a0 Z) : B4 a0 Z (.fieldLink s22 (38 : Nat) s22 s0 "Z") := wx hw 7 rfl
theorem wd12 {a0 Z} (hw : HW a0 Z) : B4 a0 Z (.classLink s22 (10 : Nat) s22) := wx hw 12 rfl
theorem wd13 {a0 Z} (hw : HW a0 Z) : B4 a0 Z (.instantiable s22 (4 : Nat)) := wx hw 13 rfl
theorem wd17 {a0 Z} (hw : HW a0 Z) : B4 a0 Z (.arrayClass Jvm.ClassFile.FieldType.byte) := wx hw 17 rfl
theorem wd22 {a0 Z} (hw : HW a0 Z) : B4 a0 Z (.methodLink s22 (1 : Nat) mn5) := wx hw 22 rfl
theorem wd23 {a0 Z} (hw : HW a0 Z) : B4 a0 Z (.instanceMethod mn5) := wx hw 23 rfl
theorem wd24 {a0 Z} (hw : HW a0 Z) : B4 a0 Z (.code mn5 object_method_1_code (1 : Nat) (Option.none : Option Jvm.ClassFile.FieldType)) := wx hw 24 rfl
theorem wd25 {a0 Z} (hw : HW a0 Z) : B4 a0 Z (.fieldLink s22 (9 : Nat) s22 "value" "[B") := wx hw 25 rfl
theorem wd26 {a0 Z} (hw : HW a0 Z) : B4 a0 Z (.laysFinal s22 s22 "value" "[B") := wx hw 26 rfl
theorem wd27 {a0 Z} (hw : HW a0 Z) : B4 a0 Z (.fieldLink s22 (15 : Nat) s22 "coder" "B") := wx hw 27 rfl
theorem wd28 {a0 Z} (hw : HW a0 Z) : B4 a0 Z (.laysFinal s22 s22 "coder" "B") := wx hw 28 rfl
theorem wd31 {a0 Z} (hw : HW a0 Z) : B4 a0 Z (.initialized s43) := wx hw 31 rfl
theorem wd33 {a0 Z} (hw : HW a0 Z) : B4 a0 Z (.constantLong s43 (18 : Nat) (281474976710656 : Int64)) := wx hw 33 rfl
theorem wd34 {a0 Z} (hw : HW a0 Z) : B4 a0 Z (.classLink s43 (8 : Nat) s43) := wx hw 34 rfl
theorem wd35 {a0 Z} (hw : HW a0 Z) : B4 a0 Z (.instantiable s43 (2 : Nat)) := wx hw 35 rfl
theorem wd36 {a0 Z} (hw : HW a0 Z) : B4 a0 Z (.arrayClass Jvm.ClassFile.FieldType.long) := wx hw 36 rfl
theorem wd40 {a0 Z} (hw : HW a0 Z) : B4 a0 Z (.methodLink s43 (1 : Nat) mn5) := wx hw 40 rfl
theorem wd41 {a0 Z} (hw : HW a0 Z) : B4 a0 Z (.fieldLink s43 (7 : Nat) s43 "lows" "[J") := wx hw 41 rfl
theorem wd42 {a0 Z} (hw : HW a0 Z) : B4 a0 Z (.laysFinal s43 s43 "lows" "[J") := wx hw 42 rfl
theorem wd43 {a0 Z} (hw : HW a0 Z) : B4 a0 Z (.fieldLink s43 (13 : Nat) s43 "highs" "[J") := wx hw 43 rfl
theorem wd44 {a0 Z} (hw : HW a0 Z) : B4 a0 Z (.laysFinal s43 s43 "highs" "[J") := wx hw 44 rfl
theorem wd45 {a0 Z} (hw : HW a0 Z) : B4 a0 Z (.classLink s47 (24 : Nat) s45) := wx hw 45 rfl
theorem wd46 {a0 Z} (hw : HW a0 Z) : B4 a0 Z (.instantiable s45 (5 : Nat)) := wx hw 46 rfl
theorem wd47 {a0 Z} (hw : HW a0 Z) : B4 a0 Z (.initialized s45) := wx hw 47 rfl
theorem wd51 {a0 Z} (hw : HW a0 Z) : B4 a0 Z (.methodLink s45 (1 : Nat) mn5) := wx hw 51 rfl
theorem wd52 {a0 Z} (hw : HW a0 Z) : B4 a0 Z (.fieldLink s45 (7 : Nat) s45 s2 s5) := wx hw 52 rfl
theorem wd53 {a0 Z} (hw : HW a0 Z) : B4 a0 Z (.laysStatic s45 s2 s5) := wx hw 53 rfl
theorem wd64 {a0 Z} (hw : HW a0 Z) : B4 a0 Z (.fieldLink s29 (7 : Nat) s29 s13 s7) := wx hw 64 rfl
theorem wd66 {a0 Z} (hw : HW a0 Z) : B4 a0 Z (.classLink s45 (19 : Nat) s43) := wx hw 66 rfl
theorem wd67 {a0 Z} (hw : HW a0 Z) : B4 a0 Z (.arrayOver (Jvm.ClassFile.FieldType.object s43)) := wx hw 67 rfl
theorem wd68 {a0 Z} (hw : HW a0 Z) : B4 a0 Z (.fieldLink s45 (21 : Nat) s45 "sets" s8) := wx hw 68 rfl
theorem wd69 {a0 Z} (hw : HW a0 Z) : B4 a0 Z (.laysFinal s45 s45 "sets" s8) := wx hw 69 rfl
theorem wd70 {a0 Z} (hw : HW a0 Z) : B4 a0 Z (.classLink s45 (25 : Nat) s27) := wx hw 70 rfl
theorem wd71 {a0 Z} (hw : HW a0 Z) : B4 a0 Z (.instantiable s27 (3 : Nat)) := wx hw 71 rfl
theorem wd72 {a0 Z} (hw : HW a0 Z) : B4 a0 Z (.initialized s27) := wx hw 72 rfl
theorem wd88 {a0 Z} (hw : HW a0 Z) : B4 a0 Z (.methodLink s25 (1 : Nat) mn5) := wx hw 88 rfl
theorem wd89 {a0 Z} (hw : HW a0 Z) : B4 a0 Z (.fieldLink s26 (7 : Nat) s26 s36 "I") := wx hw 89 rfl
theorem wd90 {a0 Z} (hw : HW a0 Z) : B4 a0 Z (.lays s27 s26 s36 "I") := wx hw 90 rfl
theorem wd91 {a0 Z} (hw : HW a0 Z) : B4 a0 Z (.fieldLink s27 (39 : Nat) s27 s1 s7) := wx hw 91 rfl
theorem wd92 {a0 Z} (hw : HW a0 Z) : B4 a0 Z (.fieldLink s27 (9 : Nat) s27 s12 s7) := wx hw 92 rfl
theorem wd93 {a0 Z} (hw : HW a0 Z) : B4 a0 Z (.lays s27 s27 s12 s7) := wx hw 93 rfl
theorem wd94 {a0 Z} (hw : HW a0 Z) : B4 a0 Z (.fieldLink s45 (28 : Nat) s45 s16 s5) := wx hw 94 rfl
theorem wd95 {a0 Z} (hw : HW a0 Z) : B4 a0 Z (.laysFinal s45 s45 s16 s5) := wx hw 95 rfl
theorem wd96 {a0 Z} (hw : HW a0 Z) : B4 a0 Z (.fieldLink s45 (31 : Nat) s45 s11 s5) := wx hw 96 rfl
theorem wd97 {a0 Z} (hw : HW a0 Z) : B4 a0 Z (.laysFinal s45 s45 s11 s5) := wx hw 97 rfl
theorem wd101 {a0 Z} (hw : HW a0 Z) : B4 a0 Z (.selects s45 mn13 mn13) := wx hw 101 rfl
theorem wd103 {a0 Z} (hw : HW a0 Z) : B4 a0 Z (.fieldLink s45 (56 : Nat) s45 s48 "Z") := wx hw 103 rfl
theorem wd104 {a0 Z} (hw : HW a0 Z) : B4 a0 Z (.lays s45 s45 s48 "Z") := wx hw 104 rfl
theorem wd108 {a0 Z} (hw : HW a0 Z) : B4 a0 Z (.selects s45 mn14 mn14) := wx hw 108 rfl
theorem wd118 {a0 Z} (hw : HW a0 Z) : B4 a0 Z (.classLink s45 (63 : Nat) s42) := wx hw 118 rfl
theorem wd123 {a0 Z} (hw : HW a0 Z) : B4 a0 Z (.selects s42 mn16 mn16) := wx hw 123 rfl
theorem wd126 {a0 Z} (hw : HW a0 Z) : B4 a0 Z (.fieldLink s42 (35 : Nat) s42 "low" "J") := wx hw 126 rfl
theorem wd128 {a0 Z} (hw : HW a0 Z) : B4 a0 Z (.fieldLink s42 (39 : Nat) s42 "high" "J") := wx hw 128 rfl
theorem wd134 {a0 Z} (hw : HW a0 Z) : B4 a0 Z (.selects s43 mn17 mn17) := wx hw 134 rfl
theorem wd136 {a0 Z} (hw : HW a0 Z) : B4 a0 Z (.classLink s43 (97 : Nat) s44) := wx hw 136 rfl
theorem wd137 {a0 Z} (hw : HW a0 Z) : B4 a0 Z (.instantiable s44 (3 : Nat)) := wx hw 137 rfl
theorem wd138 {a0 Z} (hw : HW a0 Z) : B4 a0 Z (.initialized s44) := wx hw 138 rfl
theorem wd142 {a0 Z} (hw : HW a0 Z) : B4 a0 Z (.methodLink s44 (1 : Nat) mn5) := wx hw 142 rfl
theorem wd143 {a0 Z} (hw : HW a0 Z) : B4 a0 Z (.fieldLink s44 (7 : Nat) s44 "lows" "[J") := wx hw 143 rfl
theorem wd144 {a0 Z} (hw : HW a0 Z) : B4 a0 Z (.laysFinal s44 s44 "lows" "[J") := wx hw 144 rfl
theorem wd145 {a0 Z} (hw : HW a0 Z) : B4 a0 Z (.fieldLink s44 (13 : Nat) s44 "highs" "[J") := wx hw 145 rfl
theorem wd146 {a0 Z} (hw : HW a0 Z) : B4 a0 Z (.laysFinal s44 s44 "highs" "[J") := wx hw 146 rfl
theorem wd150 {a0 Z} (hw : HW a0 Z) : B4 a0 Z (.selects s44 mn19 mn19) := wx hw 150 rfl
theorem wd152 {a0 Z} (hw : HW a0 Z) : B4 a0 Z (.fieldLink s44 (16 : Nat) s44 "count" "I") := wx hw 152 rfl
theorem wd153 {a0 Z} (hw : HW a0 Z) : B4 a0 Z (.lays s44 s44 "count" "I") := wx hw 153 rfl
theorem wd157 {a0 Z} (hw : HW a0 Z) : B4 a0 Z (.selects s44 mn20 mn20) := wx hw 157 rfl
theorem wd159 {a0 Z} (hw : HW a0 Z) : B4 a0 Z (.classLink s44 (26 : Nat) s43) := wx hw 159 rfl
theorem wd168 {a0 Z} (hw : HW a0 Z) : B4 a0 Z (.methodLink s28 (150 : Nat) ({ cls := s24, name := s9, desc := "(Ljava/lang/Object;ILjava/lang/Object;II)V" } : Jvm.MethodName)) := wx hw 168 rfl
theorem wd169 {a0 Z} (hw : HW a0 Z) : B4 a0 Z (.static ({ cls := s24, name := s9, desc := "(Ljava/lang/Object;ILjava/lang/Object;II)V" } : Jvm.MethodName)) := wx hw 169 rfl
theorem wd170 {a0 Z} (hw : HW a0 Z) : B4 a0 Z (.initialized s24) := wx hw 170 rfl
theorem wd171 {a0 Z} (hw : HW a0 Z) : B4 a0 Z (.native ({ cls := s24, name := s9, desc := "(Ljava/lang/Object;ILjava/lang/Object;II)V" } : Jvm.MethodName)) := wx hw 171 rfl
theorem wd175 {a0 Z} (hw : HW a0 Z) : B4 a0 Z (.initialized s32) := wx hw 175 rfl
theorem wd177 {a0 Z} (hw : HW a0 Z) : B4 a0 Z (.classLink s32 (2 : Nat) s32) := wx hw 177 rfl
theorem wd178 {a0 Z} (hw : HW a0 Z) : B4 a0 Z (.instantiable s32 (1 : Nat)) := wx hw 178 rfl
theorem wd187 {a0 Z} (hw : HW a0 Z) : B4 a0 Z (.methodLink s32 (7 : Nat) mn5) := wx hw 187 rfl
theorem wd188 {a0 Z} (hw : HW a0 Z) : B4 a0 Z (.fieldLink s32 (13 : Nat) s32 "value" s3) := wx hw 188 rfl
theorem wd189 {a0 Z} (hw : HW a0 Z) : B4 a0 Z (.laysFinal s32 s32 "value" s3) := wx hw 189 rfl
theorem wd190 {a0 Z} (hw : HW a0 Z) : B4 a0 Z (.fieldLink s45 (38 : Nat) s45 s15 "Z") := wx hw 190 rfl
theorem wd191 {a0 Z} (hw : HW a0 Z) : B4 a0 Z (.lays s45 s45 s15 "Z") := wx hw 191 rfl
theorem wd195 {a0 Z} (hw : HW a0 Z) : B4 a0 Z (.selects s32 mn26 mn26) := wx hw 195 rfl
theorem wd197 {a0 Z} (hw : HW a0 Z) : B4 a0 Z (.lambdaSite mn14 (36 : Nat) (72 : Nat) (Jvm.Lambda.Shape.mk s33 "accept" (Jvm.ClassFile.MethodDescriptor.mk ([(Jvm.ClassFile.FieldType.object s20)] : List Jvm.ClassFile.FieldType) (Option.none : Option Jvm.ClassFile.FieldType)) ([(Jvm.ClassFile.FieldType.object s45), Jvm.ClassFile.FieldType.int] : List Jvm.ClassFile.FieldType) (5 : Nat) s45 s34 (Jvm.ClassFile.MethodDescriptor.mk ([Jvm.ClassFile.FieldType.int, (Jvm.ClassFile.FieldType.object s43)] : List Jvm.ClassFile.FieldType) (Option.none : Option Jvm.ClassFile.FieldType)) false (Jvm.ClassFile.MethodDescriptor.mk ([(Jvm.ClassFile.FieldType.object s43)] : List Jvm.ClassFile.FieldType) (Option.none : Option Jvm.ClassFile.FieldType)))) := wx hw 197 rfl
theorem wd200 {a0 Z} (hw : HW a0 Z) : B4 a0 Z (.instantiable s20 (0 : Nat)) := wx hw 200 rfl
theorem wd204 {a0 Z} (hw : HW a0 Z) : B4 a0 Z (.selects s32 mn27 mn27) := wx hw 204 rfl
theorem wd216 {a0 Z} (hw : HW a0 Z) : B4 a0 Z (.selects s45 mn29 mn29) := wx hw 216 rfl
theorem wd221 {a0 Z} (hw : HW a0 Z) : B4 a0 Z (.selects s45 mn30 mn30) := wx hw 221 rfl
theorem wd232 {a0 Z} (hw : HW a0 Z) : B4 a0 Z (.fieldLink s27 (63 : Nat) s27 s36 "I") := wx hw 232 rfl
theorem wd233 {a0 Z} (hw : HW a0 Z) : B4 a0 Z (.sameField s27 s26 s36 "I") := wx hw 233 rfl
theorem wd234 {a0 Z} (hw : HW a0 Z) : B4 a0 Z (.fieldLink s27 (48 : Nat) s27 "size" "I") := wx hw 234 rfl
theorem wd235 {a0 Z} (hw : HW a0 Z) : B4 a0 Z (.lays s27 s27 "size" "I") := wx hw 235 rfl
theorem wd238 {a0 Z} (hw : HW a0 Z) : B4 a0 Z (.privateMethod mn32) := wx hw 238 rfl
theorem wd243 {a0 Z} (hw : HW a0 Z) : B4 a0 Z (.privateMethod mn33) := wx hw 243 rfl
theorem wd248 {a0 Z} (hw : HW a0 Z) : B4 a0 Z (.privateMethod mn34) := wx hw 248 rfl
theorem wd254 {a0 Z} (hw : HW a0 Z) : B4 a0 Z (.classLink s27 (7 : Nat) s20) := wx hw 254 rfl
theorem wd255 {a0 Z} (hw : HW a0 Z) : B4 a0 Z (.arrayOver (Jvm.ClassFile.FieldType.object s20)) := wx hw 255 rfl
theorem wd256 {a0 Z} (hw : HW a0 Z) : B4 a0 Z (.castable s43 s20) := wx hw 256 rfl
theorem wd258 {a0 Z} (hw : HW a0 Z) : B4 a0 Z (.methodLink s28 (319 : Nat) ({ cls := "[J", name := "clone", desc := "()Ljava/lang/Object;" } : Jvm.MethodName)) := wx hw 258 rfl
theorem wd259 {a0 Z} (hw : HW a0 Z) : B4 a0 Z (.sameMethod "[J" s20 "clone" "()Ljava/lang/Object;") := wx hw 259 rfl
theorem wd261 {a0 Z} (hw : HW a0 Z) : B4 a0 Z (.instanceMethod ({ cls := s20, name := "clone", desc := "()Ljava/lang/Object;" } : Jvm.MethodName)) := wx hw 261 rfl
theorem wd262 {a0 Z} (hw : HW a0 Z) : B4 a0 Z (.selects "[J" ({ cls := "[J", name := "clone", desc := "()Ljava/lang/Object;" } : Jvm.MethodName) ({ cls := s20, name := "clone", desc := "()Ljava/lang/Object;" } : Jvm.MethodName)) := wx hw 262 rfl
theorem wd263 {a0 Z} (hw : HW a0 Z) : B4 a0 Z (.native ({ cls := s20, name := "clone", desc := "()Ljava/lang/Object;" } : Jvm.MethodName)) := wx hw 263 rfl
theorem wd264 {a0 Z} (hw : HW a0 Z) : B4 a0 Z (.castable "[J" s18) := wx hw 264 rfl
theorem wd265 {a0 Z} (hw : HW a0 Z) : B4 a0 Z (.classLink s28 (320 : Nat) "[J") := wx hw 265 rfl
theorem wd270 {a0 Z} (hw : HW a0 Z) : B4 a0 Z (.selects s43 mn36 mn36) := wx hw 270 rfl
theorem wd281 {a0 Z} (hw : HW a0 Z) : B4 a0 Z (.fieldLink s32 (1 : Nat) s32 "EMPTY" s6) := wx hw 281 rfl
theorem wd282 {a0 Z} (hw : HW a0 Z) : B4 a0 Z (.lambdaSite mn29 (44 : Nat) (48 : Nat) (Jvm.Lambda.Shape.mk s33 "accept" (Jvm.ClassFile.MethodDescriptor.mk ([(Jvm.ClassFile.FieldType.object s20)] : List Jvm.ClassFile.FieldType) (Option.none : Option Jvm.ClassFile.FieldType)) ([(Jvm.ClassFile.FieldType.object s45), Jvm.ClassFile.FieldType.int] : List Jvm.ClassFile.FieldType) (5 : Nat) s45 s35 (Jvm.ClassFile.MethodDescriptor.mk ([Jvm.ClassFile.FieldType.int, (Jvm.ClassFile.FieldType.object s43)] : List Jvm.ClassFile.FieldType) (Option.none : Option Jvm.ClassFile.FieldType)) false (Jvm.ClassFile.MethodDescriptor.mk ([(Jvm.ClassFile.FieldType.object s43)] : List Jvm.ClassFile.FieldType) (Option.none : Option Jvm.ClassFile.FieldType)))) := wx hw 282 rfl
theorem wd286 {a0 Z} (hw : HW a0 Z) : B4 a0 Z (.selects s45 mn40 mn40) := wx hw 286 rfl
theorem wd288 {a0 Z} (hw : HW a0 Z) : B4 a0 Z (.classLink s45 (73 : Nat) s46) := wx hw 288 rfl
theorem wd289 {a0 Z} (hw : HW a0 Z) : B4 a0 Z (.instantiable s46 (3 : Nat)) := wx hw 289 rfl
theorem wd290 {a0 Z} (hw : HW a0 Z) : B4 a0 Z (.initialized s46) := wx hw 290 rfl
theorem wd299 {a0 Z} (hw : HW a0 Z) : B4 a0 Z (.methodLink s21 (1 : Nat) mn5) := wx hw 299 rfl
theorem wd300 {a0 Z} (hw : HW a0 Z) : B4 a0 Z (.fieldLink s46 (7 : Nat) s46 "field" "I") := wx hw 300 rfl
theorem wd301 {a0 Z} (hw : HW a0 Z) : B4 a0 Z (.laysFinal s46 s46 "field" "I") := wx hw 301 rfl
theorem wd302 {a0 Z} (hw : HW a0 Z) : B4 a0 Z (.fieldLink s46 (13 : Nat) s46 "pattern" s4) := wx hw 302 rfl
theorem wd303 {a0 Z} (hw : HW a0 Z) : B4 a0 Z (.laysFinal s46 s46 "pattern" s4) := wx hw 303 rfl
theorem wd304 {a0 Z} (hw : HW a0 Z) : B4 a0 Z (.fieldLink s46 (17 : Nat) s46 "negated" "Z") := wx hw 304 rfl
theorem wd305 {a0 Z} (hw : HW a0 Z) : B4 a0 Z (.laysFinal s46 s46 "negated" "Z") := wx hw 305 rfl
theorem wd306 {a0 Z} (hw : HW a0 Z) : B4 a0 Z (.castable s46 s20) := wx hw 306 rfl
theorem wd310 {a0 Z} (hw : HW a0 Z) : B4 a0 Z (.selects s45 mn43 mn43) := wx hw 310 rfl
theorem wd315 {a0 Z} (hw : HW a0 Z) : B4 a0 Z (.selects s45 mn44 mn44) := wx hw 315 rfl
def own_ng (x : Int32) : Int32 := if x = 0 then (0 : Int32) else (1 : Int32)
theorem d1_0 : DC cb1 0 (.getstatic 38) 3 := by decide +kernel
theorem d1_3 : DC cb1 3 (.ifCond .eq 23) 3 := by decide +kernel
theorem d1_6 : DC cb1 6 (.iload_n 0) 1 := by decide +kernel
theorem d1_7 : DC cb1 7 (.invokestatic 1015) 3 := by decide +kernel
theorem d2_0 : DC cb2 0 (.iload_n 0) 1 := by decide +kernel
theorem d2_1 : DC cb2 1 (.sipush 255) 3 := by decide +kernel
theorem d2_4 : DC cb2 4 (.if_icmp .gt 7) 3 := by decide +kernel
theorem d2_7 : DC cb2 7 (.iconst 1) 1 := by decide +kernel
theorem d2_8 : DC cb2 8 (.goto 4) 3 := by decide +kernel
theorem d2_12 : DC cb2 12 (.ireturn) 1 := by decide +kernel
theorem ef_2_0 (m : MethodId) (x0 : Int32) : entryFrame m #[(.int x0)] 1 = mkF m 0 #[.val (.int x0)] [] := by first | (simp [entryFrame, mkF, argsToLocals, Value.category]; done) | rfl
theorem pn_0 : plainName "java/lang/StringLatin1" = true := by first | (simp [plainName, overriddenIn]; done) | decide +kernel
theorem rm2_0 (l : Launch) (Z : State) (a0 : Array Value) (hw : HW a0 Z) (p1 : Int32) (h0 : Heap) (n0 : Nat) (OL0 : Old Z n0 h0) (pr1 : ¬ ((255 : Int32) < p1)) :
    MF l Z mn2 jdk_43_method_3_code 1 (some .boolean) ⟨0, 0, 0, 0⟩ #[(.int p1)] h0 (QR n0 h0 (some vi1)) := by
  refine own_start (plainFor_of_name pn_0) (fun m => (ef_2_0 m p1)) ?_
  intro p e s m below meth c s₁ hZ hx hy hml ho hnm hret X0 e0
  have N0 := Fr.nil n0
  refine ⟨some vi1, _, _, _, _, _, X0, e0, by decide, nofun, fun fs hr => ?_, ?_⟩
  · refine xiloadN X0 hx hy d2_0 rfl ?_
    refine XS.sipush X0.here hx rfl (hb hy d2_1) ?_
    refine XS.icmpNo X0.here hx rfl (hb hy d2_4) rfl (flt pr1).2.2.1 ?_
    refine XS.iconst X0.here hx rfl (hb hy d2_7) ?_
    refine XS.goto X0.here hx rfl (pc0 := 8) (pc' := 12) rfl (hb hy d2_8) (by decide) (by decide) ?_
    show SS p e below s₁ m 12 #[iv p1] [vi1] _
    exact retN X0 hx (t := .boolean) hret (by simp) (hb hy d2_12) hr
  · exact ⟨rfl, N0, rfl⟩
theorem pd_0 : parseMethodDescriptor "(C)Z" = some ⟨[.char], some .boolean⟩ := by decide +kernel
theorem cw0 {a0 Z} (hw : HW a0 Z) : CS a0 Z s22 1015 mn2 1 (.code mn2 jdk_43_method_3_code 1 (some .boolean)) :=
  ⟨wx hw 8 rfl, wx hw 9 rfl, wx hw 11 rfl, wx hw 10 rfl, by decide, _, _, pd_0, rfl⟩
theorem d1_10 : DC cb1 10 (.ifCond .eq 16) 3 := by decide +kernel
theorem d1_13 : DC cb1 13 (.new 10) 3 := by decide +kernel
theorem d1_16 : DC cb1 16 (.dup) 1 := by decide +kernel
theorem d1_17 : DC cb1 17 (.iload_n 0) 1 := by decide +kernel
theorem d1_18 : DC cb1 18 (.invokestatic 1018) 3 := by decide +kernel
theorem d3_0 : DC cb3 0 (.iconst 1) 1 := by decide +kernel
theorem d3_1 : DC cb3 1 (.newarray .byte) 2 := by decide +kernel
theorem d3_3 : DC cb3 3 (.dup) 1 := by decide +kernel
theorem d3_4 : DC cb3 4 (.iconst 0) 1 := by decide +kernel
theorem d3_5 : DC cb3 5 (.iload_n 0) 1 := by decide +kernel
theorem d3_6 : DC cb3 6 (.i2b) 1 := by decide +kernel
theorem d3_7 : DC cb3 7 (.bastore) 1 := by decide +kernel
theorem d3_8 : DC cb3 8 (.areturn) 1 := by decide +kernel
theorem ef_3_1 (m : MethodId) (x0 : Int32) : entryFrame m #[(.int x0)] 1 = mkF m 0 #[.val (.int x0)] [] := by first | (simp [entryFrame, mkF, argsToLocals, Value.category]; done) | rfl
theorem rm3_0 (l : Launch) (Z : State) (a0 : Array Value) (hw : HW a0 Z) (p1 : Int32) (h0 : Heap) (n0 : Nat) (OL0 : Old Z n0 h0)  :
    MF l Z mn3 jdk_43_method_46_code 1 (some (.array .byte)) ⟨0, 1, 1, 0⟩ #[(.int p1)] h0 (fun v h L => ∃ b2 : Addr, ∃ k2 : ClassId, v = some (.ref b2) ∧ Fr n0 L ∧ Keep h0 h [] ∧ h0.size ≤ b2 ∧ Arv Z h b2 k2 .byte o1 [(.int ((p1.toInt8.toInt32).toInt8.toInt32))] vi0) := by
  refine own_start (plainFor_of_name pn_0) (fun m => (ef_3_1 m p1)) ?_
  intro p e s m below meth c s₁ hZ hx hy hml ho hnm hret X0 e0
  have N0 := Fr.nil n0
  obtain ⟨T2, h2, k2, X2, e2, E2, A2, st2⟩ := newP (aty := .byte) X0 hx hZ (wd17 hw) e0 (g := (mkF m 1 #[iv p1] [vi1])) rfl (hb hy d3_1) rfl (by decide) (cap := 1) (by decide) (by decide) (by decide) (by decide)
  obtain ⟨b2, g2⟩ : ∃ z, z = h0.size := ⟨_, rfl⟩
  rw [← g2] at A2 st2
  have V2 : Arv Z h2 b2 k2 .byte o1 [vi0] vi0 := (Arv.new A2 (by decide)).pad (pad_rep [] vi0 1)
  have g_b2 : n0 ≤ b2 := (Nat.le_trans (Nat.le_trans (Nat.le_of_eq OL0.1.symm) OL0.2.1) (Nat.le_of_eq g2.symm))
  have sz_b2 : h0.size ≤ b2 := (Nat.le_trans (Keep.refl h0 []).1 (Nat.le_of_eq g2.symm))
  have KK2 : Keep h0 h2 [] := (Keep.refl h0 []).ext E2
  obtain ⟨cl3, Ar3, q3, S3, M3, Hs3, G3⟩ := id V2
  have hin3 : ¬ (o0 < 0 ∨ cl3.slots.size ≤ (o0).toNatClampNeg) := inb_of S3 ⟨by decide, by decide⟩
  obtain ⟨T4, h4, X4, e4, W4, st4⟩ := stB X2 hx hZ e2 Ar3 (j := o0) hin3 (g := (mkF m 7 #[iv p1] [(.int (p1.toInt8.toInt32)), vi0, (.ref b2), (.ref b2)])) rfl rfl (hb hy d3_7)
  have V4 : Arv Z h4 b2 k2 .byte o1 [(.int ((p1.toInt8.toInt32).toInt8.toInt32))] vi0 := Arv.set Ar3 q3 S3 M3 Hs3 G3 (fits_nar_byte _) W4 0 rfl (Nat.le_of_ble_eq_true rfl)
  have KK4 : Keep h0 h4 [] := KK2.wr W4 (Or.inr sz_b2)
  have N4 := Fr.snoc X4 N0 g_b2
  refine ⟨some (.ref b2), _, _, _, _, _, X4, e4, by decide, nofun, fun fs hr => ?_, ?_⟩
  · refine XS.iconst X0.here hx rfl (hb hy d3_0) ?_
    refine st2 _ ?_
    refine XS.dup X2.here hx rfl (hb hy d3_3) rfl rfl ?_
    refine XS.iconst X2.here hx rfl (hb hy d3_4) ?_
    refine xiloadN X2 hx hy d3_5 rfl ?_
    refine XS.i2b X2.here hx rfl (hb hy d3_6) rfl ?_
    refine st4 _ ?_
    show SS p e below T4 m 8 #[iv p1] [(.ref b2)] _
    exact own_retR X4 hx hret rfl rfl rfl (hb hy d3_8) hr
  · exact ⟨b2, k2, rfl, N4, KK4, sz_b2, V4⟩
theorem pd_1 : parseMethodDescriptor "(C)[B" = some ⟨[.char], some (.array .byte)⟩ := by decide +kernel
theorem cw1 {a0 Z} (hw : HW a0 Z) : CS a0 Z s22 1018 mn3 1 (.code mn3 jdk_43_method_46_code 1 (some (.array .byte))) :=
  ⟨wx hw 14 rfl, wx hw 15 rfl, wx hw 16 rfl, wx hw 10 rfl, by decide, _, _, pd_1, rfl⟩
theorem d1_21 : DC cb1 21 (.iconst 0) 1 := by decide +kernel
theorem d1_22 : DC cb1 22 (.invokespecial 209) 3 := by decide +kernel
theorem d4_0 : DC cb4 0 (.aload_n 0) 1 := by decide +kernel
theorem d4_1 : DC cb4 1 (.invokespecial 1) 3 := by decide +kernel
theorem d4_4 : DC cb4 4 (.aload_n 0) 1 := by decide +kernel
theorem d4_5 : DC cb4 5 (.aload_n 1) 1 := by decide +kernel
theorem d4_6 : DC cb4 6 (.putfield 9) 3 := by decide +kernel
theorem d4_9 : DC cb4 9 (.aload_n 0) 1 := by decide +kernel
theorem d4_10 : DC cb4 10 (.iload_n 2) 1 := by decide +kernel
theorem d4_11 : DC cb4 11 (.putfield 15) 3 := by decide +kernel
theorem d4_14 : DC cb4 14 (.return_) 1 := by decide +kernel
theorem ef_4_2 (m : MethodId) (x0 : Addr) (x1 : Addr) : entryFrame m #[(.ref x0), (.ref x1), (.int (0 : Int32))] 3 = mkF m 0 #[.val (.ref x0), .val (.ref x1), .val (.int (0 : Int32))] [] := by first | (simp [entryFrame, mkF, argsToLocals, Value.category]; done) | rfl
theorem pn_1 : plainName "java/lang/String" = true := by first | (simp [plainName, overriddenIn]; done) | decide +kernel
theorem rm4_0 (l : Launch) (Z : State) (a0 : Array Value) (hw : HW a0 Z) (a1 a2 : Addr) (h0 : Heap) (n0 : Nat) (OL0 : Old Z n0 h0) (pr1 : Exa Z h0 a1 s22) (pr2 : Fld Z h0 a1 s22 "value" "[B" .null) (pr3 : n0 ≤ a1) (pr4 : Fld Z h0 a1 s22 "coder" "B" vi0) :
    MF l Z mn4 jdk_42_method_151_code 3 none ⟨1, 0, 0, 12⟩ #[(.ref a1), (.ref a2), vi0] h0 (fun v h L => v = none ∧ Fr n0 L ∧ Keep h0 h [a1] ∧ Fld Z h a1 s22 "value" "[B" (.ref a2) ∧ Fld Z h a1 s22 "coder" "B" vi0) := by
  refine own_start (plainFor_of_name pn_1) (fun m => (ef_4_2 m a1 a2)) ?_
  intro p e s m below meth c s₁ hZ hx hy hml ho hnm hret X0 e0
  have N0 := Fr.nil n0
  obtain ⟨T3, X3, e3, st3⟩ := initO X0 hx hZ ho (wd22 hw) (wd23 hw) (wd24 hw) e0 (g := (mkF m 1 #[rv a1, rv a2, iv o0] [(.ref a1)])) rfl (by rw [hml]; rfl) rfl (hb hy d4_1) (by decide) (W := 0) (by show 2 * 0 + _ ≤ _; exact Nat.le_of_eq rfl) (by decide)
  obtain ⟨T4, h4, X4, e4, W4, st4⟩ := putF X3 hx hZ ho (host := "") (Or.inl (wd25 hw)) Via.refl e3 pr2 pr1 (Or.inr ⟨(wd26 hw), rfl, hnm⟩) (wd13 hw) (ty := (.array .byte)) (by decide) rfl rfl (g := (mkF m 6 #[rv a1, rv a2, iv o0] [(.ref a2), (.ref a1)])) rfl rfl (hb hy d4_6)
  have Fw4 := pr2.same W4
  have KK4 : Keep h0 h4 [a1] := (Keep.refl h0 [a1]).wr W4 (Or.inl (List.mem_of_getElem? (i := 0) rfl))
  have N4 := Fr.snoc X4 N0 pr3
  have fc5 := (pr1.wr W4)
  have fc6 := (pr4.other W4 (Or.inr (slot_ne (Or.inr (wd28 hw)) (Or.inr (wd26 hw)) (by decide) (t := .byte) (t' := (.array .byte)) (by decide) (by decide))))
  obtain ⟨T7, h7, X7, e7, W7, st7⟩ := putFN X4 hx hZ ho (wd27 hw) Via.refl e4 fc6 fc5 (Or.inr ⟨(wd28 hw), rfl, hnm⟩) (wd13 hw) (ty := .byte) (v' := vi0) (by decide) rfl rfl (g := (mkF m 11 #[rv a1, rv a2, iv o0] [vi0, (.ref a1)])) rfl rfl (hb hy d4_11)
  have Fw7 := fc6.same W7
  have KK7 : Keep h0 h7 [a1] := KK4.wr W7 (Or.inl (List.mem_of_getElem? (i := 0) rfl))
  have N7 := Fr.snoc X7 N4 pr3
  have fc8 := (Fw4.other W7 (Or.inr (slot_ne (Or.inr (wd26 hw)) (Or.inr (wd28 hw)) (by decide) (t := (.array .byte)) (t' := .byte) (by decide) (by decide))))
  refine ⟨none, _, _, _, _, _, X7, e7, by decide, fun _ => rfl, fun fs hr => ?_, ?_⟩
  · refine xaloadN X0 hx hy d4_0 rfl rfl ?_
    refine st3 _ ?_
    refine xaloadN X3 hx hy d4_4 rfl rfl ?_
    refine xaloadN X3 hx hy d4_5 rfl rfl ?_
    refine st4 _ ?_
    refine xaloadN X4 hx hy d4_9 rfl rfl ?_
    refine xiloadN X4 hx hy d4_10 rfl ?_
    refine st7 _ ?_
    show SS p e below T7 m 14 #[rv a1, rv a2, iv o0] [] _
    exact X7.returnOut hx hret (hb hy d4_14) hr
  · exact ⟨rfl, N7, KK7, fc8, Fw7⟩
theorem pd_2 : parseMethodDescriptor "([BB)V" = some ⟨[(.array .byte), .byte], none⟩ := by decide +kernel
theorem cw2 {a0 Z} (hw : HW a0 Z) : CN a0 Z s22 209 mn4 2 (.code mn4 jdk_42_method_151_code 3 none) :=
  ⟨rfl, wx hw 18 rfl, wx hw 19 rfl, wx hw 21 rfl, wx hw 5 rfl, by decide, _, _, pd_2, rfl⟩
theorem d1_25 : DC cb1 25 (.areturn) 1 := by decide +kernel
theorem ef_1_3 (m : MethodId) (x0 : Int32) : entryFrame m #[(.int x0)] 1 = mkF m 0 #[.val (.int x0)] [] := by first | (simp [entryFrame, mkF, argsToLocals, Value.category]; done) | rfl
theorem rm1_0 (l : Launch) (Z : State) (a0 : Array Value) (hw : HW a0 Z) (p1 p2 : Int32) (h0 : Heap) (n0 : Nat) (OL0 : Old Z n0 h0) (pr1 : Sta Z Z.heap s22 s0 "Z" (.int p2)) (pr2 : ¬ (p2 = o0)) (pr3 : ¬ ((255 : Int32) < p1)) :
    MF l Z mn1 jdk_42_method_139_code 1 (some (.object s22)) ⟨2, 2, 5, 27⟩ #[(.int p1)] h0 (fun v h L => ∃ b5 b6_0 : Addr, ∃ kx6_0 : ClassId, v = some (.ref b5) ∧ Fr n0 L ∧ Keep h0 h [] ∧ h0.size ≤ b5 ∧ h0.size ≤ b6_0 ∧ b5 ≠ b6_0 ∧ Exa Z h b5 s22 ∧ Fld Z h b5 s22 "value" "[B" (.ref b6_0) ∧ Fld Z h b5 s22 "coder" "B" vi0 ∧ Arv Z h b6_0 kx6_0 .byte o1 [(.int ((p1.toInt8.toInt32).toInt8.toInt32))] vi0) := by
  refine own_start (plainFor_of_name pn_1) (fun m => (ef_1_3 m p1)) ?_
  intro p e s m below meth c s₁ hZ hx hy hml ho hnm hret X0 e0
  have N0 := Fr.nil n0
  obtain ⟨T3, X3, e3, st3⟩ := getS2 X0 hx hZ ho (host := "") (Or.inl (wd7 hw)) Via.refl e0 (pr1.ext OL0.2) (g := (mkF m 0 #[iv p1] [])) rfl (hb hy d1_0)
  obtain ⟨_, T4, L4, X4, hQ4, st4⟩ := own_cS X3 hx hZ ho hml (cw0 hw) (rm2_0 l Z a0 hw p1 h0 n0 OL0 pr3) e3 7 #[iv p1] [(.int p1)] [] 0 rfl (hb hy d1_7) (by decide)
  obtain ⟨rfl, Nq4, ec4⟩ := hQ4
  have N4 := Fr.app N0 Nq4
  obtain ⟨T5, h5, X5, e5, E5, A5, D5, -, st5⟩ := newO X4 hx hZ ho (wd12 hw) (wd13 hw) (wd5 hw) ec4 (g := (mkF m 13 #[iv p1] [])) rfl (hb hy d1_13) (by decide) (by decide)
  obtain ⟨b5, g5⟩ : ∃ z, z = h0.size := ⟨_, rfl⟩
  rw [← g5] at A5 D5 st5
  have g_b5 : n0 ≤ b5 := (Nat.le_trans (Nat.le_trans (Nat.le_of_eq OL0.1.symm) OL0.2.1) (Nat.le_of_eq g5.symm))
  have sz_b5 : h0.size ≤ b5 := (Nat.le_trans (Keep.refl h0 []).1 (Nat.le_of_eq g5.symm))
  have KK5 : Keep h0 h5 [] := (Keep.refl h0 []).ext E5
  have OL5 := OL0.ext E5
  have F_value_b5 : Fld Z h5 b5 s22 "value" "[B" .null := D5 (Or.inr (wd26 hw)) (ty := (.array .byte)) (by decide)
  have F_coder_b5 : Fld Z h5 b5 s22 "coder" "B" vi0 := D5 (Or.inr (wd28 hw)) (ty := .byte) (by decide)
  obtain ⟨_, T6, L6, X6, hQ6, st6⟩ := own_cS X5 hx hZ ho hml (cw1 hw) (rm3_0 l Z a0 hw p1 h5 n0 OL5 ) e5 18 #[iv p1] [(.int p1)] [(.ref b5), (.ref b5)] 2 rfl (hb hy d1_18) (by decide)
  obtain ⟨b6_0, kx6_0, rfl, Nq6, K6, u6_0, u6_1⟩ := hQ6
  have KK6 : Keep h0 T6.heap [] := KK5.trans K6 all0
  have OL6 := OL5.keep K6 all0
  have sz_b6_0 : h0.size ≤ b6_0 := Nat.le_trans KK5.1 u6_0
  have N6 := Fr.app N4 Nq6
  have fc8 := (A5.keep K6)
  have fc9 := (F_value_b5.keep K6 nin0)
  have fc10 := (F_coder_b5.keep K6 nin0)
  obtain ⟨_, T7, L7, X7, hQ7, st7⟩ := own_cN X6 hx hZ ho hml (cw2 hw) (rm4_0 l Z a0 hw b5 b6_0 T6.heap n0 OL6 fc8 fc9 g_b5 fc10) rfl b5 22 #[iv p1] [(.ref b6_0), vi0] [(.ref b5)] 1 rfl (hb hy d1_22) (by decide)
  obtain ⟨rfl, Nq7, K7, u7_0, u7_1⟩ := hQ7
  have KK7 : Keep h0 T7.heap [] := KK6.trans K7 (allS (Or.inr sz_b5) all0)
  have N7 := Fr.app N6 Nq7
  have nz11 := nl F_value_b5.lt u6_0
  have fc12 := (fc8.keep K7)
  have fc13 := (u6_1.keep K7 (ninS (Ne.symm nz11) nin0))
  refine ⟨some (.ref b5), _, _, _, _, _, X7, rfl, by decide, nofun, fun fs hr => ?_, ?_⟩
  · refine st3 _ ?_
    refine XS.ifNo X3.here hx rfl (hb hy d1_3) rfl ((if0 _ _).trans (feq pr2).1) ?_
    refine xiloadN X3 hx hy d1_6 rfl ?_
    refine st4 _ ?_
    refine XS.ifNo X4.here hx rfl (hb hy d1_10) rfl ((if0 _ _).trans (feq (by decide : ¬ (o1 = o0))).1) ?_
    refine st5 _ ?_
    refine XS.dup X5.here hx rfl (hb hy d1_16) rfl rfl ?_
    refine xiloadN X5 hx hy d1_17 rfl ?_
    refine st6 _ ?_
    refine XS.iconst X6.here hx rfl (hb hy d1_21) ?_
    refine st7 _ ?_
    show SS p e below T7 m 25 #[iv p1] [(.ref b5)] _
    exact own_retR X7 hx hret rfl rfl rfl (hb hy d1_25) hr
  · exact ⟨b5, b6_0, kx6_0, rfl, N7, KK7, sz_b5, sz_b6_0, nz11, fc12, u7_0, u7_1, fc13⟩
theorem pd_3 : parseMethodDescriptor "(C)Ljava/lang/String;" = some ⟨[.char], some (.object "java/lang/String")⟩ := by decide +kernel
theorem cw3 {a0 Z} (hw : HW a0 Z) : CS a0 Z s47 12 mn1 1 (.code mn1 jdk_42_method_139_code 1 (some (.object s22))) :=
  ⟨wx hw 3 rfl, wx hw 4 rfl, wx hw 6 rfl, wx hw 5 rfl, by decide, _, _, pd_3, rfl⟩
theorem d6_0 : DC cb6 0 (.lload_n 0) 1 := by decide +kernel
theorem d6_1 : DC cb6 1 (.lconst 0) 1 := by decide +kernel
theorem d6_2 : DC cb6 2 (.lcmp) 1 := by decide +kernel
theorem d6_3 : DC cb6 3 (.ifCond .lt 17) 3 := by decide +kernel
theorem d6_6 : DC cb6 6 (.lload_n 0) 1 := by decide +kernel
theorem d6_7 : DC cb6 7 (.lload_n 2) 1 := by decide +kernel
theorem d6_8 : DC cb6 8 (.lcmp) 1 := by decide +kernel
theorem d6_9 : DC cb6 9 (.ifCond .gt 11) 3 := by decide +kernel
theorem d6_12 : DC cb6 12 (.lload_n 2) 1 := by decide +kernel
theorem d6_13 : DC cb6 13 (.ldc2_w 18) 3 := by decide +kernel
theorem d6_16 : DC cb6 16 (.lcmp) 1 := by decide +kernel
theorem d6_17 : DC cb6 17 (.ifCond .le 18) 3 := by decide +kernel
theorem d6_35 : DC cb6 35 (.new 8) 3 := by decide +kernel
theorem d6_38 : DC cb6 38 (.dup) 1 := by decide +kernel
theorem d6_39 : DC cb6 39 (.iconst 1) 1 := by decide +kernel
theorem d6_40 : DC cb6 40 (.newarray .long) 2 := by decide +kernel
theorem d6_42 : DC cb6 42 (.dup) 1 := by decide +kernel
theorem d6_43 : DC cb6 43 (.iconst 0) 1 := by decide +kernel
theorem d6_44 : DC cb6 44 (.lload_n 0) 1 := by decide +kernel
theorem d6_45 : DC cb6 45 (.lastore) 1 := by decide +kernel
theorem d6_46 : DC cb6 46 (.iconst 1) 1 := by decide +kernel
theorem d6_47 : DC cb6 47 (.newarray .long) 2 := by decide +kernel
theorem d6_49 : DC cb6 49 (.dup) 1 := by decide +kernel
theorem d6_50 : DC cb6 50 (.iconst 0) 1 := by decide +kernel
theorem d6_51 : DC cb6 51 (.lload_n 2) 1 := by decide +kernel
theorem d6_52 : DC cb6 52 (.lastore) 1 := by decide +kernel
theorem d6_53 : DC cb6 53 (.invokespecial 29) 3 := by decide +kernel
theorem d7_0 : DC cb7 0 (.aload_n 0) 1 := by decide +kernel
theorem d7_1 : DC cb7 1 (.invokespecial 1) 3 := by decide +kernel
theorem d7_4 : DC cb7 4 (.aload_n 0) 1 := by decide +kernel
theorem d7_5 : DC cb7 5 (.aload_n 1) 1 := by decide +kernel
theorem d7_6 : DC cb7 6 (.putfield 7) 3 := by decide +kernel
theorem d7_9 : DC cb7 9 (.aload_n 0) 1 := by decide +kernel
theorem d7_10 : DC cb7 10 (.aload_n 2) 1 := by decide +kernel
theorem d7_11 : DC cb7 11 (.putfield 13) 3 := by decide +kernel
theorem d7_14 : DC cb7 14 (.return_) 1 := by decide +kernel
theorem ef_7_4 (m : MethodId) (x0 : Addr) (x1 : Addr) (x2 : Addr) : entryFrame m #[(.ref x0), (.ref x1), (.ref x2)] 3 = mkF m 0 #[.val (.ref x0), .val (.ref x1), .val (.ref x2)] [] := by first | (simp [entryFrame, mkF, argsToLocals, Value.category]; done) | rfl
theorem pn_2 : plainName "shadowsift/core/ValueSet" = true := by first | (simp [plainName, overriddenIn]; done) | decide +kernel
theorem rm7_0 (l : Launch) (Z : State) (a0 : Array Value) (hw : HW a0 Z) (a1 a2 a3 : Addr) (h0 : Heap) (n0 : Nat) (OL0 : Old Z n0 h0) (pr1 : Exa Z h0 a1 s43) (pr2 : Fld Z h0 a1 s43 "lows" "[J" .null) (pr3 : n0 ≤ a1) (pr4 : Fld Z h0 a1 s43 "highs" "[J" .null) :
    MF l Z mn7 prog_63_method_1_code 3 none ⟨1, 0, 0, 12⟩ #[(.ref a1), (.ref a2), (.ref a3)] h0 (fun v h L => v = none ∧ Fr n0 L ∧ Keep h0 h [a1] ∧ Fld Z h a1 s43 "lows" "[J" (.ref a2) ∧ Fld Z h a1 s43 "highs" "[J" (.ref a3)) := by
  refine own_start (plainFor_of_name pn_2) (fun m => (ef_7_4 m a1 a2 a3)) ?_
  intro p e s m below meth c s₁ hZ hx hy hml ho hnm hret X0 e0
  have N0 := Fr.nil n0
  obtain ⟨T4, X4, e4, st4⟩ := initO X0 hx hZ ho (wd40 hw) (wd23 hw) (wd24 hw) e0 (g := (mkF m 1 #[rv a1, rv a2, rv a3] [(.ref a1)])) rfl (by rw [hml]; rfl) rfl (hb hy d7_1) (by decide) (W := 0) (by show 2 * 0 + _ ≤ _; exact Nat.le_of_eq rfl) (by decide)
  obtain ⟨T5, h5, X5, e5, W5, st5⟩ := putF X4 hx hZ ho (host := "") (Or.inl (wd41 hw)) Via.refl e4 pr2 pr1 (Or.inr ⟨(wd42 hw), rfl, hnm⟩) (wd35 hw) (ty := (.array .long)) (by decide) rfl rfl (g := (mkF m 6 #[rv a1, rv a2, rv a3] [(.ref a2), (.ref a1)])) rfl rfl (hb hy d7_6)
  have Fw5 := pr2.same W5
  have KK5 : Keep h0 h5 [a1] := (Keep.refl h0 [a1]).wr W5 (Or.inl (List.mem_of_getElem? (i := 0) rfl))
  have N5 := Fr.snoc X5 N0 pr3
  have fc6 := (pr1.wr W5)
  have fc7 := (pr4.other W5 (Or.inr (slot_ne (Or.inr (wd44 hw)) (Or.inr (wd42 hw)) (by decide) (t := (.array .long)) (t' := (.array .long)) (by decide) (by decide))))
  obtain ⟨T8, h8, X8, e8, W8, st8⟩ := putF X5 hx hZ ho (host := "") (Or.inl (wd43 hw)) Via.refl e5 fc7 fc6 (Or.inr ⟨(wd44 hw), rfl, hnm⟩) (wd35 hw) (ty := (.array .long)) (by decide) rfl rfl (g := (mkF m 11 #[rv a1, rv a2, rv a3] [(.ref a3), (.ref a1)])) rfl rfl (hb hy d7_11)
  have Fw8 := fc7.same W8
  have KK8 : Keep h0 h8 [a1] := KK5.wr W8 (Or.inl (List.mem_of_getElem? (i := 0) rfl))
  have N8 := Fr.snoc X8 N5 pr3
  have fc9 := (Fw5.other W8 (Or.inr (slot_ne (Or.inr (wd42 hw)) (Or.inr (wd44 hw)) (by decide) (t := (.array .long)) (t' := (.array .long)) (by decide) (by decide))))
  refine ⟨none, _, _, _, _, _, X8, e8, by decide, fun _ => rfl, fun fs hr => ?_, ?_⟩
  · refine xaloadN X0 hx hy d7_0 rfl rfl ?_
    refine st4 _ ?_
    refine xaloadN X4 hx hy d7_4 rfl rfl ?_
    refine xaloadN X4 hx hy d7_5 rfl rfl ?_
    refine st5 _ ?_
    refine xaloadN X5 hx hy d7_9 rfl rfl ?_
    refine xaloadN X5 hx hy d7_10 rfl rfl ?_
    refine st8 _ ?_
    show SS p e below T8 m 14 #[rv a1, rv a2, rv a3] [] _
    exact X8.returnOut hx hret (hb hy d7_14) hr
  · exact ⟨rfl, N8, KK8, fc9, Fw8⟩
theorem pd_4 : parseMethodDescriptor "([J[J)V" = some ⟨[(.array .long), (.array .long)], none⟩ := by decide +kernel
theorem cw4 {a0 Z} (hw : HW a0 Z) : CN a0 Z s43 29 mn7 2 (.code mn7 prog_63_method_1_code 3 none) :=
  ⟨rfl, wx hw 37 rfl, wx hw 38 rfl, wx hw 39 rfl, wx hw 31 rfl, by decide, _, _, pd_4, rfl⟩
theorem d6_56 : DC cb6 56 (.areturn) 1 := by decide +kernel
theorem ef_6_5 (m : MethodId) (x0 : Int64) (x1 : Int64) : entryFrame m #[(.long x0), (.long x1)] 4 = mkF m 0 #[.val (.long x0), .second, .val (.long x1), .second] [] := by first | (simp [entryFrame, mkF, argsToLocals, Value.category]; done) | rfl
theorem rm6_0 (l : Launch) (Z : State) (a0 : Array Value) (hw : HW a0 Z) (q1 q2 : Int64) (h0 : Heap) (n0 : Nat) (OL0 : Old Z n0 h0) (pr1 : ¬ (q1 < oj0)) (pr2 : ¬ (q2 < q1)) (pr3 : ¬ ((281474976710656 : Int64) < q2)) :
    MF l Z mn6 prog_63_method_2_code 4 (some tV) ⟨2, 3, 4, 27⟩ #[(.long q1), (.long q2)] h0 (fun v h L => ∃ b3 b4 b7 : Addr, ∃ k4 : ClassId, ∃ k7 : ClassId, v = some (.ref b3) ∧ Fr n0 L ∧ Keep h0 h [] ∧ h0.size ≤ b3 ∧ h0.size ≤ b4 ∧ h0.size ≤ b7 ∧ b3 ≠ b4 ∧ b3 ≠ b7 ∧ b4 ≠ b7 ∧ Exa Z h b3 s43 ∧ Fld Z h b3 s43 "lows" "[J" (.ref b4) ∧ Fld Z h b3 s43 "highs" "[J" (.ref b7) ∧ Arv Z h b4 k4 .long o1 [(.long q1)] lj0 ∧ Exa Z h b4 "[J" ∧ Arv Z h b7 k7 .long o1 [(.long q2)] lj0 ∧ Exa Z h b7 "[J") := by
  refine own_start (plainFor_of_name pn_2) (fun m => (ef_6_5 m q1 q2)) ?_
  intro p e s m below meth c s₁ hZ hx hy hml ho hnm hret X0 e0
  have N0 := Fr.nil n0
  obtain ⟨T3, h3, X3, e3, E3, A3, D3, -, st3⟩ := newO X0 hx hZ ho (wd34 hw) (wd35 hw) (wd31 hw) e0 (g := (mkF m 35 #[jv q1, sc, jv q2, sc] [])) rfl (hb hy d6_35) (by decide) (by decide)
  obtain ⟨b3, g3⟩ : ∃ z, z = h0.size := ⟨_, rfl⟩
  rw [← g3] at A3 D3 st3
  have g_b3 : n0 ≤ b3 := (Nat.le_trans (Nat.le_trans (Nat.le_of_eq OL0.1.symm) OL0.2.1) (Nat.le_of_eq g3.symm))
  have sz_b3 : h0.size ≤ b3 := (Nat.le_trans (Keep.refl h0 []).1 (Nat.le_of_eq g3.symm))
  have KK3 : Keep h0 h3 [] := (Keep.refl h0 []).ext E3
  have OL3 := OL0.ext E3
  have F_lows_b3 : Fld Z h3 b3 s43 "lows" "[J" .null := D3 (Or.inr (wd42 hw)) (ty := (.array .long)) (by decide)
  have F_highs_b3 : Fld Z h3 b3 s43 "highs" "[J" .null := D3 (Or.inr (wd44 hw)) (ty := (.array .long)) (by decide)
  obtain ⟨T4, h4, k4, X4, e4, E4, A4, AE4, st4⟩ := newPE (aty := .long) (ad := "[J") X3 hx hZ (wd36 hw) e3 (g := (mkF m 40 #[jv q1, sc, jv q2, sc] [vi1, (.ref b3), (.ref b3)])) rfl (hb hy d6_40) rfl (by decide) (cap := 1) (by decide) (by decide) (by decide) (by decide) (by decide)
  obtain ⟨b4, g4⟩ : ∃ z, z = h3.size := ⟨_, rfl⟩
  rw [← g4] at A4 AE4 st4
  have V4 : Arv Z h4 b4 k4 .long o1 [lj0] lj0 := (Arv.new A4 (by decide)).pad (pad_rep [] lj0 1)
  have g_b4 : n0 ≤ b4 := (Nat.le_trans (Nat.le_trans (Nat.le_of_eq OL3.1.symm) OL3.2.1) (Nat.le_of_eq g4.symm))
  have sz_b4 : h0.size ≤ b4 := (Nat.le_trans KK3.1 (Nat.le_of_eq g4.symm))
  have KK4 : Keep h0 h4 [] := KK3.ext E4
  have OL4 := OL3.ext E4
  obtain ⟨T6, h6, X6, e6, W6, VV6, st6⟩ := own_sJ X4 hx hZ e4 V4 o0 (by decide) 0 q1 [(.ref b4), (.ref b3), (.ref b3)] 45 #[jv q1, sc, jv q2, sc] (hb hy d6_45) rfl (Nat.le_of_ble_eq_true rfl)
  have V6 : Arv Z h6 b4 k4 .long o1 [(.long q1)] lj0 := VV6
  have KK6 : Keep h0 h6 [] := KK4.wr W6 (Or.inr sz_b4)
  have OL6 := OL4.wr W6 g_b4
  have N6 := Fr.snoc X6 N0 g_b4
  obtain ⟨T7, h7, k7, X7, e7, E7, A7, AE7, st7⟩ := newPE (aty := .long) (ad := "[J") X6 hx hZ (wd36 hw) e6 (g := (mkF m 47 #[jv q1, sc, jv q2, sc] [vi1, (.ref b4), (.ref b3), (.ref b3)])) rfl (hb hy d6_47) rfl (by decide) (cap := 1) (by decide) (by decide) (by decide) (by decide) (by decide)
  obtain ⟨b7, g7⟩ : ∃ z, z = h6.size := ⟨_, rfl⟩
  rw [← g7] at A7 AE7 st7
  have V7 : Arv Z h7 b7 k7 .long o1 [lj0] lj0 := (Arv.new A7 (by decide)).pad (pad_rep [] lj0 1)
  have g_b7 : n0 ≤ b7 := (Nat.le_trans (Nat.le_trans (Nat.le_of_eq OL6.1.symm) OL6.2.1) (Nat.le_of_eq g7.symm))
  have sz_b7 : h0.size ≤ b7 := (Nat.le_trans KK6.1 (Nat.le_of_eq g7.symm))
  have KK7 : Keep h0 h7 [] := KK6.ext E7
  have OL7 := OL6.ext E7
  obtain ⟨T9, h9, X9, e9, W9, VV9, st9⟩ := own_sJ X7 hx hZ e7 V7 o0 (by decide) 0 q2 [(.ref b7), (.ref b4), (.ref b3), (.ref b3)] 52 #[jv q1, sc, jv q2, sc] (hb hy d6_52) rfl (Nat.le_of_ble_eq_true rfl)
  have V9 : Arv Z h9 b7 k7 .long o1 [(.long q2)] lj0 := VV9
  have KK9 : Keep h0 h9 [] := KK7.wr W9 (Or.inr sz_b7)
  have OL9 := OL7.wr W9 g_b7
  have N9 := Fr.snoc X9 N6 g_b7
  have fc11 := ((((A3.ext E4).wr W6).ext E7).wr W9)
  have nz12 := (nl F_lows_b3.lt (Nat.le_of_eq g4.symm))
  have lz13 := (lq (lq F_lows_b3.lt E4.1) (Nat.le_of_eq W6.size.symm))
  have nz14 := (nl lz13 (Nat.le_of_eq g7.symm))
  have fc15 := ((((F_lows_b3.ext E4).other W6 (Or.inl nz12)).ext E7).other W9 (Or.inl nz14))
  have fc16 := ((((F_highs_b3.ext E4).other W6 (Or.inl nz12)).ext E7).other W9 (Or.inl nz14))
  obtain ⟨_, T10, L10, X10, hQ10, st10⟩ := own_cN X9 hx hZ ho hml (cw4 hw) (rm7_0 l Z a0 hw b3 b4 b7 h9 n0 OL9 fc11 fc15 g_b3 fc16) e9 b3 53 #[jv q1, sc, jv q2, sc] [(.ref b4), (.ref b7)] [(.ref b3)] 1 rfl (hb hy d6_53) (by decide)
  obtain ⟨rfl, Nq10, K10, u10_0, u10_1⟩ := hQ10
  have KK10 : Keep h0 T10.heap [] := KK9.trans K10 (allS (Or.inr sz_b3) all0)
  have N10 := Fr.app N9 Nq10
  have nz17 := (nl V6.lt (Nat.le_of_eq g7.symm))
  have fc18 := (fc11.keep K10)
  have fc19 := (((V6.ext E7).other W9 nz17).keep K10 (ninS (Ne.symm nz12) nin0))
  have fc20 := ((((AE4.wr W6).ext E7).wr W9).keep K10)
  have fc21 := (V9.keep K10 (ninS (Ne.symm nz14) nin0))
  have fc22 := ((AE7.wr W9).keep K10)
  refine ⟨some (.ref b3), _, _, _, _, _, X10, rfl, by decide, nofun, fun fs hr => ?_, ?_⟩
  · refine xlloadN X0 hx hy d6_0 rfl ?_
    refine XS.lconst X0.here hx rfl (hb hy d6_1) ?_
    refine XS.lcmp X0.here hx rfl (hb hy d6_2) rfl ?_
    refine XS.ifNo X0.here hx rfl (hb hy d6_3) rfl ((if0 _ _).trans (flt ((fun z => pr1 ((lw_lt q1 oj0).mp z)) : ¬ ((lcmpW q1 oj0) < o0))).1) ?_
    refine xlloadN X0 hx hy d6_6 rfl ?_
    refine xlloadN X0 hx hy d6_7 rfl ?_
    refine XS.lcmp X0.here hx rfl (hb hy d6_8) rfl ?_
    refine XS.ifNo X0.here hx rfl (hb hy d6_9) rfl ((if0 _ _).trans (flt ((fun z => pr2 ((lw_gt q1 q2).mp z)) : ¬ (o0 < (lcmpW q1 q2)))).2.2.1) ?_
    refine xlloadN X0 hx hy d6_12 rfl ?_
    refine X0.ldc2Long hx ho (mvT hZ (wd33 hw)) (g := (mkF m 13 #[jv q1, sc, jv q2, sc] [(.long q2)])) rfl (hb hy d6_13) _ ?_
    refine XS.lcmp X0.here hx rfl (hb hy d6_16) rfl ?_
    refine XS.ifYes X0.here hx rfl (pc0 := 17) (pc' := 35) rfl (hb hy d6_17) rfl ((if0 _ _).trans (flt ((fun z => pr3 ((lw_gt q2 (281474976710656 : Int64)).mp z)) : ¬ (o0 < (lcmpW q2 (281474976710656 : Int64))))).2.2.2) (by decide) (by decide) ?_
    refine st3 _ ?_
    refine XS.dup X3.here hx rfl (hb hy d6_38) rfl rfl ?_
    refine XS.iconst X3.here hx rfl (hb hy d6_39) ?_
    refine st4 _ ?_
    refine XS.dup X4.here hx rfl (hb hy d6_42) rfl rfl ?_
    refine XS.iconst X4.here hx rfl (hb hy d6_43) ?_
    refine xlloadN X4 hx hy d6_44 rfl ?_
    refine st6 _ ?_
    refine XS.iconst X6.here hx rfl (hb hy d6_46) ?_
    refine st7 _ ?_
    refine XS.dup X7.here hx rfl (hb hy d6_49) rfl rfl ?_
    refine XS.iconst X7.here hx rfl (hb hy d6_50) ?_
    refine xlloadN X7 hx hy d6_51 rfl ?_
    refine st9 _ ?_
    refine st10 _ ?_
    show SS p e below T10 m 56 #[jv q1, sc, jv q2, sc] [(.ref b3)] _
    exact own_retR X10 hx hret rfl rfl rfl (hb hy d6_56) hr
  · exact ⟨b3, b4, b7, k4, k7, rfl, N10, KK10, sz_b3, sz_b4, sz_b7, nz12, nz14, nz17, fc18, u10_0, u10_1, fc19, fc20, fc21, fc22⟩
theorem pd_5 : parseMethodDescriptor "(JJ)Lshadowsift/core/ValueSet;" = some ⟨[.long, .long], some (.object "shadowsift/core/ValueSet")⟩ := by decide +kernel
theorem cw5 {a0 Z} (hw : HW a0 Z) : CS a0 Z s47 18 mn6 2 (.code mn6 prog_63_method_2_code 4 (some (.object s43))) :=
  ⟨wx hw 29 rfl, wx hw 30 rfl, wx hw 32 rfl, wx hw 31 rfl, by decide, _, _, pd_5, rfl⟩
theorem d8_0 : DC cb8 0 (.aload_n 0) 1 := by decide +kernel
theorem d8_1 : DC cb8 1 (.invokespecial 1) 3 := by decide +kernel
theorem d8_4 : DC cb8 4 (.aload_n 0) 1 := by decide +kernel
theorem d8_5 : DC cb8 5 (.getstatic 7) 3 := by decide +kernel
theorem d8_8 : DC cb8 8 (.invokeinterface 13 1) 5 := by decide +kernel
theorem d9_0 : DC cb9 0 (.aload_n 0) 1 := by decide +kernel
theorem d9_1 : DC cb9 1 (.getfield 7) 3 := by decide +kernel
theorem d9_4 : DC cb9 4 (.arraylength) 1 := by decide +kernel
theorem d9_5 : DC cb9 5 (.ireturn) 1 := by decide +kernel
theorem ef_9_6 (m : MethodId) (x0 : Addr) : entryFrame m #[(.ref x0)] 1 = mkF m 0 #[.val (.ref x0)] [] := by first | (simp [entryFrame, mkF, argsToLocals, Value.category]; done) | rfl
theorem pn_3 : plainName "java/util/ImmutableCollections$ListN" = true := by first | (simp [plainName, overriddenIn]; done) | decide +kernel
theorem rm9_0 (l : Launch) (Z : State) (a0 : Array Value) (hw : HW a0 Z) (w1 w2 : Addr) (p4 : Int32) (w5 : Addr) (k6 : ClassId) (h0 : Heap) (n0 : Nat) (OL0 : Old Z n0 h0) (pr1 : Fld Z Z.heap w1 s29 s13 s7 (.ref w2)) (pr2 : Asl Z Z.heap w2 k6 (.object s20) o12 p4 (.ref w5)) :
    MF l Z mn9 jdk_45_method_3_code 1 (some .int) ⟨0, 0, 0, 0⟩ #[(.ref w1)] h0 (QR n0 h0 (some (.int o12))) := by
  refine own_start (plainFor_of_name pn_3) (fun m => (ef_9_6 m w1)) ?_
  intro p e s m below meth c s₁ hZ hx hy hml ho hnm hret X0 e0
  have N0 := Fr.nil n0
  obtain ⟨T3, X3, e3, st3⟩ := gF X0 hx hZ ho (wd64 hw) Via.refl e0 (pr1.ext OL0.2) 1 #[rv w1] [] (hb hy d9_1)
  obtain ⟨-, cl7, Ar7, -, Sz7, Nn7, -⟩ := id (pr2.ext OL0.2)
  refine ⟨some (.int o12), _, _, _, _, _, X3, e3, by decide, nofun, fun fs hr => ?_, ?_⟩
  · refine xaloadN X0 hx hy d9_0 rfl rfl ?_
    refine st3 _ ?_
    refine X3.arraylength hx (by rw [e3]; exact Ar7.1) (State.isArrayOf_alike hZ.alike Ar7.2.1) (g := (mkF m 4 #[rv w1] [(.ref w2)])) rfl rfl (hb hy d9_4) _ ?_
    rw [len_of Sz7 Nn7]
    show SS p e below T3 m 5 #[rv w1] [(.int o12)] _
    exact retI X3 hx hret (hb hy d9_5) hr
  · exact ⟨rfl, N0, rfl⟩
theorem pd_6 : parseMethodDescriptor "()I" = some ⟨[], some .int⟩ := by decide +kernel
theorem cw6 {a0 Z} (hw : HW a0 Z) : CI a0 Z s45 13 (⟨s30, "size", "()I"⟩ : MethodName) mn9 s29 0 (.code mn9 jdk_45_method_3_code 1 (some .int)) :=
  ⟨wx hw 54 rfl, wx hw 55 rfl, ⟨wx hw 56 rfl, by first | rfl | simp [Cond.onTables, Cond.keepsFace, Cond.keeps, Cond.steady]⟩, wx hw 57 rfl, wx hw 58 rfl, wx hw 59 rfl, wx hw 60 rfl, wx hw 61 rfl, wx hw 63 rfl, wx hw 62 rfl, by decide, _, _, pd_6, rfl⟩
theorem d8_13 : DC cb8 13 (.anewarray 19) 3 := by decide +kernel
theorem d8_16 : DC cb8 16 (.putfield 21) 3 := by decide +kernel
theorem d8_19 : DC cb8 19 (.aload_n 0) 1 := by decide +kernel
theorem d8_20 : DC cb8 20 (.new 25) 3 := by decide +kernel
theorem d8_23 : DC cb8 23 (.dup) 1 := by decide +kernel
theorem d8_24 : DC cb8 24 (.invokespecial 27) 3 := by decide +kernel
theorem d10_0 : DC cb10 0 (.aload_n 0) 1 := by decide +kernel
theorem d10_1 : DC cb10 1 (.invokespecial 1) 3 := by decide +kernel
theorem d11_0 : DC cb11 0 (.aload_n 0) 1 := by decide +kernel
theorem d11_1 : DC cb11 1 (.invokespecial 1) 3 := by decide +kernel
theorem d12_0 : DC cb12 0 (.aload_n 0) 1 := by decide +kernel
theorem d12_1 : DC cb12 1 (.invokespecial 1) 3 := by decide +kernel
theorem d12_4 : DC cb12 4 (.return_) 1 := by decide +kernel
theorem ef_12_7 (m : MethodId) (x0 : Addr) : entryFrame m #[(.ref x0)] 1 = mkF m 0 #[.val (.ref x0)] [] := by first | (simp [entryFrame, mkF, argsToLocals, Value.category]; done) | rfl
theorem pn_4 : plainName "java/util/AbstractCollection" = true := by first | (simp [plainName, overriddenIn]; done) | decide +kernel
theorem rm12_0 (l : Launch) (Z : State) (a0 : Array Value) (hw : HW a0 Z) (a1 : Addr) (h0 : Heap) (n0 : Nat) (OL0 : Old Z n0 h0)  :
    MF l Z mn12 jdk_22_method_1_code 1 none ⟨1, 0, 0, 12⟩ #[(.ref a1)] h0 (QR n0 h0 (none)) := by
  refine own_start (plainFor_of_name pn_4) (fun m => (ef_12_7 m a1)) ?_
  intro p e s m below meth c s₁ hZ hx hy hml ho hnm hret X0 e0
  have N0 := Fr.nil n0
  obtain ⟨T2, X2, e2, st2⟩ := initO X0 hx hZ ho (wd88 hw) (wd23 hw) (wd24 hw) e0 (g := (mkF m 1 #[rv a1] [(.ref a1)])) rfl (by rw [hml]; rfl) rfl (hb hy d12_1) (by decide) (W := 0) (by show 2 * 0 + _ ≤ _; exact Nat.le_of_eq rfl) (by decide)
  refine ⟨none, _, _, _, _, _, X2, e2, by decide, fun _ => rfl, fun fs hr => ?_, ?_⟩
  · refine xaloadN X0 hx hy d12_0 rfl rfl ?_
    refine st2 _ ?_
    show SS p e below T2 m 4 #[rv a1] [] _
    exact X2.returnOut hx hret (hb hy d12_4) hr
  · exact ⟨rfl, N0, rfl⟩
theorem pd_7 : parseMethodDescriptor "()V" = some ⟨[], none⟩ := by decide +kernel
theorem cw7 {a0 Z} (hw : HW a0 Z) : CN a0 Z s26 1 mn12 0 (.code mn12 jdk_22_method_1_code 1 none) :=
  ⟨rfl, wx hw 82 rfl, wx hw 83 rfl, wx hw 87 rfl, wx hw 86 rfl, by decide, _, _, pd_7, rfl⟩
theorem d11_4 : DC cb11 4 (.aload_n 0) 1 := by decide +kernel
theorem d11_5 : DC cb11 5 (.iconst 0) 1 := by decide +kernel
theorem d11_6 : DC cb11 6 (.putfield 7) 3 := by decide +kernel
theorem d11_9 : DC cb11 9 (.return_) 1 := by decide +kernel
theorem ef_11_8 (m : MethodId) (x0 : Addr) : entryFrame m #[(.ref x0)] 1 = mkF m 0 #[.val (.ref x0)] [] := by first | (simp [entryFrame, mkF, argsToLocals, Value.category]; done) | rfl
theorem pn_5 : plainName "java/util/AbstractList" = true := by first | (simp [plainName, overriddenIn]; done) | decide +kernel
theorem rm11_0 (l : Launch) (Z : State) (a0 : Array Value) (hw : HW a0 Z) (a1 : Addr) (h0 : Heap) (n0 : Nat) (OL0 : Old Z n0 h0) (pr1 : Exa Z h0 a1 s27) (pr2 : Fld Z h0 a1 s26 s36 "I" vi0) (pr3 : n0 ≤ a1) (pr4 : Fld Z h0 a1 s27 s12 s7 .null) (pr5 : Fld Z h0 a1 s27 "size" "I" vi0) :
    MF l Z mn11 jdk_39_method_1_code 1 none ⟨2, 0, 0, 24⟩ #[(.ref a1)] h0 (fun v h L => v = none ∧ Fr n0 L ∧ Keep h0 h [a1] ∧ Fld Z h a1 s26 s36 "I" vi0 ∧ Fld Z h a1 s27 s12 s7 .null ∧ Fld Z h a1 s27 "size" "I" vi0) := by
  refine own_start (plainFor_of_name pn_5) (fun m => (ef_11_8 m a1)) ?_
  intro p e s m below meth c s₁ hZ hx hy hml ho hnm hret X0 e0
  have N0 := Fr.nil n0
  obtain ⟨_, T2, L2, X2, hQ2, st2⟩ := own_cN X0 hx hZ ho hml (cw7 hw) (rm12_0 l Z a0 hw a1 h0 n0 OL0 ) e0 a1 1 #[rv a1] [] [] 0 rfl (hb hy d11_1) (by decide)
  obtain ⟨rfl, Nq2, ec2⟩ := hQ2
  have N2 := Fr.app N0 Nq2
  obtain ⟨T3, h3, X3, e3, W3, st3⟩ := putF X2 hx hZ ho (host := "") (Or.inl (wd89 hw)) Via.refl ec2 pr2 pr1 (Or.inl (wd90 hw)) (wd71 hw) (ty := .int) (by decide) rfl rfl (g := (mkF m 6 #[rv a1] [vi0, (.ref a1)])) rfl rfl (hb hy d11_6)
  have Fw3 := pr2.same W3
  have KK3 : Keep h0 h3 [a1] := (Keep.refl h0 [a1]).wr W3 (Or.inl (List.mem_of_getElem? (i := 0) rfl))
  have N3 := Fr.snoc X3 N2 pr3
  have fc4 := (pr4.other W3 (Or.inr (slot_ne (Or.inl (wd93 hw)) (Or.inl (wd90 hw)) (by decide) (t := (.array (.object s20))) (t' := .int) (by decide) (by decide))))
  have fc5 := (pr5.other W3 (Or.inr (slot_ne (Or.inl (wd235 hw)) (Or.inl (wd90 hw)) (by decide) (t := .int) (t' := .int) (by decide) (by decide))))
  refine ⟨none, _, _, _, _, _, X3, e3, by decide, fun _ => rfl, fun fs hr => ?_, ?_⟩
  · refine xaloadN X0 hx hy d11_0 rfl rfl ?_
    refine st2 _ ?_
    refine xaloadN X2 hx hy d11_4 rfl rfl ?_
    refine XS.iconst X2.here hx rfl (hb hy d11_5) ?_
    refine st3 _ ?_
    show SS p e below T3 m 9 #[rv a1] [] _
    exact X3.returnOut hx hret (hb hy d11_9) hr
  · exact ⟨rfl, N3, KK3, Fw3, fc4, fc5⟩
theorem cw8 {a0 Z} (hw : HW a0 Z) : CN a0 Z s27 1 mn11 0 (.code mn11 jdk_39_method_1_code 1 none) :=
  ⟨rfl, wx hw 76 rfl, wx hw 77 rfl, wx hw 81 rfl, wx hw 80 rfl, by decide, _, _, pd_7, rfl⟩
theorem d10_4 : DC cb10 4 (.aload_n 0) 1 := by decide +kernel
theorem d10_5 : DC cb10 5 (.getstatic 39) 3 := by decide +kernel
theorem d10_8 : DC cb10 8 (.putfield 9) 3 := by decide +kernel
theorem d10_11 : DC cb10 11 (.return_) 1 := by decide +kernel
theorem ef_10_9 (m : MethodId) (x0 : Addr) : entryFrame m #[(.ref x0)] 1 = mkF m 0 #[.val (.ref x0)] [] := by first | (simp [entryFrame, mkF, argsToLocals, Value.category]; done) | rfl
theorem pn_6 : plainName "java/util/ArrayList" = true := by first | (simp [plainName, overriddenIn]; done) | decide +kernel
theorem rm10_0 (l : Launch) (Z : State) (a0 : Array Value) (hw : HW a0 Z) (a1 w3 : Addr) (h0 : Heap) (n0 : Nat) (OL0 : Old Z n0 h0) (pr1 : Exa Z h0 a1 s27) (pr2 : Fld Z h0 a1 s26 s36 "I" vi0) (pr3 : n0 ≤ a1) (pr4 : Fld Z h0 a1 s27 s12 s7 .null) (pr5 : Fld Z h0 a1 s27 "size" "I" vi0) (pr6 : Sta Z Z.heap s27 s1 s7 (.ref w3)) :
    MF l Z mn10 jdk_38_method_2_code 1 none ⟨3, 0, 0, 36⟩ #[(.ref a1)] h0 (fun v h L => v = none ∧ Fr n0 L ∧ Keep h0 h [a1] ∧ Fld Z h a1 s26 s36 "I" vi0 ∧ Fld Z h a1 s27 s12 s7 (.ref w3) ∧ Fld Z h a1 s27 "size" "I" vi0) := by
  refine own_start (plainFor_of_name pn_6) (fun m => (ef_10_9 m a1)) ?_
  intro p e s m below meth c s₁ hZ hx hy hml ho hnm hret X0 e0
  have N0 := Fr.nil n0
  obtain ⟨_, T2, L2, X2, hQ2, st2⟩ := own_cN X0 hx hZ ho hml (cw8 hw) (rm11_0 l Z a0 hw a1 h0 n0 OL0 pr1 pr2 pr3 pr4 pr5) e0 a1 1 #[rv a1] [] [] 0 rfl (hb hy d10_1) (by decide)
  obtain ⟨rfl, Nq2, K2, u2_0, u2_1, u2_2⟩ := hQ2
  have KK2 : Keep h0 T2.heap [a1] := (Keep.refl h0 [a1]).trans K2 (allS (Or.inl (List.mem_of_getElem? (i := 0) rfl)) all0)
  have OL2 := OL0.keep K2 (allS pr3 all0)
  have N2 := Fr.app N0 Nq2
  obtain ⟨T4, X4, e4, st4⟩ := getS2 X2 hx hZ ho (host := "") (Or.inl (wd91 hw)) Via.refl rfl (pr6.ext OL2.2) (g := (mkF m 5 #[rv a1] [(.ref a1)])) rfl (hb hy d10_5)
  have fc5 := (pr1.keep K2)
  obtain ⟨T6, h6, X6, e6, W6, st6⟩ := putF X4 hx hZ ho (host := "") (Or.inl (wd92 hw)) Via.refl e4 u2_1 fc5 (Or.inl (wd93 hw)) (wd71 hw) (ty := (.array (.object s20))) (by decide) rfl rfl (g := (mkF m 8 #[rv a1] [(.ref w3), (.ref a1)])) rfl rfl (hb hy d10_8)
  have Fw6 := u2_1.same W6
  have KK6 : Keep h0 h6 [a1] := KK2.wr W6 (Or.inl (List.mem_of_getElem? (i := 0) rfl))
  have N6 := Fr.snoc X6 N2 pr3
  have fc7 := (u2_0.other W6 (Or.inr (slot_ne (Or.inl (wd90 hw)) (Or.inl (wd93 hw)) (by decide) (t := .int) (t' := (.array (.object s20))) (by decide) (by decide))))
  have fc8 := (u2_2.other W6 (Or.inr (slot_ne (Or.inl (wd235 hw)) (Or.inl (wd93 hw)) (by decide) (t := .int) (t' := (.array (.object s20))) (by decide) (by decide))))
  refine ⟨none, _, _, _, _, _, X6, e6, by decide, fun _ => rfl, fun fs hr => ?_, ?_⟩
  · refine xaloadN X0 hx hy d10_0 rfl rfl ?_
    refine st2 _ ?_
    refine xaloadN X2 hx hy d10_4 rfl rfl ?_
    refine st4 _ ?_
    refine st6 _ ?_
    show SS p e below T6 m 11 #[rv a1] [] _
    exact X6.returnOut hx hret (hb hy d10_11) hr
  · exact ⟨rfl, N6, KK6, fc7, Fw6, fc8⟩
theorem cw9 {a0 Z} (hw : HW a0 Z) : CN a0 Z s45 27 mn10 0 (.code mn10 jdk_38_method_2_code 1 none) :=
  ⟨rfl, wx hw 73 rfl, wx hw 74 rfl, wx hw 75 rfl, wx hw 72 rfl, by decide, _, _, pd_7, rfl⟩
theorem d8_27 : DC cb8 27 (.putfield 28) 3 := by decide +kernel
theorem d8_30 : DC cb8 30 (.aload_n 0) 1 := by decide +kernel
theorem d8_31 : DC cb8 31 (.new 25) 3 := by decide +kernel
theorem d8_34 : DC cb8 34 (.dup) 1 := by decide +kernel
theorem d8_35 : DC cb8 35 (.invokespecial 27) 3 := by decide +kernel
theorem d8_38 : DC cb8 38 (.putfield 31) 3 := by decide +kernel
theorem d8_41 : DC cb8 41 (.return_) 1 := by decide +kernel
theorem ef_8_10 (m : MethodId) (x0 : Addr) : entryFrame m #[(.ref x0)] 1 = mkF m 0 #[.val (.ref x0)] [] := by first | (simp [entryFrame, mkF, argsToLocals, Value.category]; done) | rfl
theorem pn_7 : plainName "shadowsift/iptables/Condition" = true := by first | (simp [plainName, overriddenIn]; done) | decide +kernel
theorem rm8_0 (l : Launch) (Z : State) (a0 : Array Value) (hw : HW a0 Z) (a1 w3 w5 : Addr) (p6 : Int32) (w7 : Addr) (k8 : ClassId) (w15 : Addr) (h0 : Heap) (n0 : Nat) (OL0 : Old Z n0 h0) (pr1 : Sta Z Z.heap s45 s2 s5 (.ref w3)) (pr2 : Fld Z Z.heap w3 s29 s13 s7 (.ref w5)) (pr3 : Asl Z Z.heap w5 k8 (.object s20) o12 p6 (.ref w7)) (pr4 : Exa Z Z.heap w3 s29) (pr5 : Exa Z h0 a1 s45) (pr6 : Fld Z h0 a1 s45 "sets" s8 .null) (pr7 : n0 ≤ a1) (pr8 : Sta Z Z.heap s27 s1 s7 (.ref w15)) (pr9 : Fld Z h0 a1 s45 s16 s5 .null) (pr10 : Fld Z h0 a1 s45 s11 s5 .null) (pr11 : Fld Z h0 a1 s45 s15 "Z" vi0) (pr12 : Fld Z h0 a1 s45 s48 "Z" vi0) :
    MF l Z mn8 prog_66_method_1_code 1 none ⟨4, 3, 18, 50⟩ #[(.ref a1)] h0 (fun v h L => ∃ b10 b14 b21 : Addr, ∃ k10 : ClassId, v = none ∧ Fr n0 L ∧ Keep h0 h [a1] ∧ h0.size ≤ b10 ∧ h0.size ≤ b14 ∧ h0.size ≤ b21 ∧ b10 ≠ b14 ∧ b10 ≠ b21 ∧ b14 ≠ b21 ∧ Fld Z h a1 s45 "sets" s8 (.ref b10) ∧ Fld Z h a1 s45 s16 s5 (.ref b14) ∧ Fld Z h a1 s45 s11 s5 (.ref b21) ∧ Fld Z h a1 s45 s15 "Z" vi0 ∧ Fld Z h a1 s45 s48 "Z" vi0 ∧ Arv Z h b10 k10 tV o12 [.null, .null, .null, .null, .null, .null, .null, .null, .null, .null, .null, .null] .null ∧ Ovr Z k10 s43 ∧ Exa Z h b10 s8 ∧ Exa Z h b14 s27 ∧ Fld Z h b14 s26 s36 "I" vi0 ∧ Fld Z h b14 s27 s12 s7 (.ref w15) ∧ Fld Z h b14 s27 "size" "I" vi0 ∧ Exa Z h b21 s27 ∧ Fld Z h b21 s26 s36 "I" vi0 ∧ Fld Z h b21 s27 s12 s7 (.ref w15) ∧ Fld Z h b21 s27 "size" "I" vi0) := by
  refine own_start (plainFor_of_name pn_7) (fun m => (ef_8_10 m a1)) ?_
  intro p e s m below meth c s₁ hZ hx hy hml ho hnm hret X0 e0
  have N0 := Fr.nil n0
  obtain ⟨T2, X2, e2, st2⟩ := initO X0 hx hZ ho (wd51 hw) (wd23 hw) (wd24 hw) e0 (g := (mkF m 1 #[rv a1] [(.ref a1)])) rfl (by rw [hml]; rfl) rfl (hb hy d8_1) (by decide) (W := 0) (by show 2 * 0 + _ ≤ _; exact Nat.le_of_eq rfl) (by decide)
  obtain ⟨T4, X4, e4, st4⟩ := getS2 X2 hx hZ ho (host := "") (Or.inl (wd52 hw)) Via.refl e2 (pr1.ext OL0.2) (g := (mkF m 5 #[rv a1] [(.ref a1)])) rfl (hb hy d8_5)
  obtain ⟨_, T9, L9, X9, hQ9, st9⟩ := own_cI X4 hx hZ ho hml (cw6 hw) (rm9_0 l Z a0 hw w3 w5 p6 w7 k8 h0 n0 OL0 pr2 pr3) e4 (pr4.ext OL0.2) 8 #[rv a1] [] [(.ref a1)] 1 rfl (hb hy d8_8) (by decide)
  obtain ⟨rfl, Nq9, ec9⟩ := hQ9
  have N9 := Fr.app N0 Nq9
  obtain ⟨T10, h10, k10, X10, e10, E10, A10, AE10, O10, st10⟩ := newRE (ad := s8) X9 hx hZ ho (wd66 hw) (wd67 hw) ec9 (g := (mkF m 13 #[rv a1] [(.int o12), (.ref a1)])) rfl (hb hy d8_13) rfl (by decide) (cap := 12) (by decide) (by decide) (by decide) (by decide) (by decide)
  obtain ⟨b10, g10⟩ : ∃ z, z = h0.size := ⟨_, rfl⟩
  rw [← g10] at A10 AE10 st10
  have V10 : Arv Z h10 b10 k10 tV o12 [.null, .null, .null, .null, .null, .null, .null, .null, .null, .null, .null, .null] .null := (Arv.new A10 (by decide)).pad (pad_rep [] .null 12)
  have sz_b10 : h0.size ≤ b10 := (Nat.le_trans (Keep.refl h0 [a1]).1 (Nat.le_of_eq g10.symm))
  have KK10 : Keep h0 h10 [a1] := (Keep.refl h0 [a1]).ext E10
  have OL10 := OL0.ext E10
  have fc11 := (pr5.ext E10)
  have fc12 := (pr6.ext E10)
  obtain ⟨T13, h13, X13, e13, W13, st13⟩ := putF X10 hx hZ ho (host := "") (Or.inl (wd68 hw)) Via.refl e10 fc12 fc11 (Or.inr ⟨(wd69 hw), rfl, hnm⟩) (wd46 hw) (ty := (.array tV)) (by decide) rfl rfl (g := (mkF m 16 #[rv a1] [(.ref b10), (.ref a1)])) rfl rfl (hb hy d8_16)
  have Fw13 := fc12.same W13
  have KK13 : Keep h0 h13 [a1] := KK10.wr W13 (Or.inl (List.mem_of_getElem? (i := 0) rfl))
  have OL13 := OL10.wr W13 pr7
  have N13 := Fr.snoc X13 N9 pr7
  obtain ⟨T14, h14, X14, e14, E14, A14, D14, -, st14⟩ := newO X13 hx hZ ho (wd70 hw) (wd71 hw) (wd72 hw) e13 (g := (mkF m 20 #[rv a1] [(.ref a1)])) rfl (hb hy d8_20) (by decide) (by decide)
  obtain ⟨b14, g14⟩ : ∃ z, z = h13.size := ⟨_, rfl⟩
  rw [← g14] at A14 D14 st14
  have g_b14 : n0 ≤ b14 := (Nat.le_trans (Nat.le_trans (Nat.le_of_eq OL13.1.symm) OL13.2.1) (Nat.le_of_eq g14.symm))
  have sz_b14 : h0.size ≤ b14 := (Nat.le_trans KK13.1 (Nat.le_of_eq g14.symm))
  have KK14 : Keep h0 h14 [a1] := KK13.ext E14
  have OL14 := OL13.ext E14
  have F_modCount_b14 : Fld Z h14 b14 s26 s36 "I" vi0 := D14 (Or.inl (wd90 hw)) (ty := .int) (by decide)
  have F_elementData_b14 : Fld Z h14 b14 s27 s12 s7 .null := D14 (Or.inl (wd93 hw)) (ty := (.array (.object s20))) (by decide)
  have F_size_b14 : Fld Z h14 b14 s27 "size" "I" vi0 := D14 (Or.inl (wd235 hw)) (ty := .int) (by decide)
  obtain ⟨_, T16, L16, X16, hQ16, st16⟩ := own_cN X14 hx hZ ho hml (cw9 hw) (rm10_0 l Z a0 hw b14 w15 h14 n0 OL14 A14 F_modCount_b14 g_b14 F_elementData_b14 F_size_b14 pr8) e14 b14 24 #[rv a1] [] [(.ref b14), (.ref a1)] 2 rfl (hb hy d8_24) (by decide)
  obtain ⟨rfl, Nq16, K16, u16_0, u16_1, u16_2⟩ := hQ16
  have KK16 : Keep h0 T16.heap [a1] := KK14.trans K16 (allS (Or.inr sz_b14) all0)
  have OL16 := OL14.keep K16 (allS g_b14 all0)
  have N16 := Fr.app N13 Nq16
  have fc17 := (((fc11.wr W13).ext E14).keep K16)
  have nz18 := nl pr9.lt sz_b14
  have fc19 := ((((pr9.ext E10).other W13 (Or.inr (slot_ne (Or.inr (wd95 hw)) (Or.inr (wd69 hw)) (by decide) (t := (.object s30)) (t' := (.array tV)) (by decide) (by decide)))).ext E14).keep K16 (ninS nz18 nin0))
  obtain ⟨T20, h20, X20, e20, W20, st20⟩ := putF X16 hx hZ ho (host := "") (Or.inl (wd94 hw)) Via.refl rfl fc19 fc17 (Or.inr ⟨(wd95 hw), rfl, hnm⟩) (wd46 hw) (ty := (.object s30)) (by decide) rfl rfl (g := (mkF m 27 #[rv a1] [(.ref b14), (.ref a1)])) rfl rfl (hb hy d8_27)
  have Fw20 := fc19.same W20
  have KK20 : Keep h0 h20 [a1] := KK16.wr W20 (Or.inl (List.mem_of_getElem? (i := 0) rfl))
  have OL20 := OL16.wr W20 pr7
  have N20 := Fr.snoc X20 N16 pr7
  obtain ⟨T21, h21, X21, e21, E21, A21, D21, -, st21⟩ := newO X20 hx hZ ho (wd70 hw) (wd71 hw) (wd72 hw) e20 (g := (mkF m 31 #[rv a1] [(.ref a1)])) rfl (hb hy d8_31) (by decide) (by decide)
  obtain ⟨b21, g21⟩ : ∃ z, z = h20.size := ⟨_, rfl⟩
  rw [← g21] at A21 D21 st21
  have g_b21 : n0 ≤ b21 := (Nat.le_trans (Nat.le_trans (Nat.le_of_eq OL20.1.symm) OL20.2.1) (Nat.le_of_eq g21.symm))
  have sz_b21 : h0.size ≤ b21 := (Nat.le_trans KK20.1 (Nat.le_of_eq g21.symm))
  have KK21 : Keep h0 h21 [a1] := KK20.ext E21
  have OL21 := OL20.ext E21
  have F_modCount_b21 : Fld Z h21 b21 s26 s36 "I" vi0 := D21 (Or.inl (wd90 hw)) (ty := .int) (by decide)
  have F_elementData_b21 : Fld Z h21 b21 s27 s12 s7 .null := D21 (Or.inl (wd93 hw)) (ty := (.array (.object s20))) (by decide)
  have F_size_b21 : Fld Z h21 b21 s27 "size" "I" vi0 := D21 (Or.inl (wd235 hw)) (ty := .int) (by decide)
  obtain ⟨_, T22, L22, X22, hQ22, st22⟩ := own_cN X21 hx hZ ho hml (cw9 hw) (rm10_0 l Z a0 hw b21 w15 h21 n0 OL21 A21 F_modCount_b21 g_b21 F_elementData_b21 F_size_b21 pr8) e21 b21 35 #[rv a1] [] [(.ref b21), (.ref a1)] 2 rfl (hb hy d8_35) (by decide)
  obtain ⟨rfl, Nq22, K22, u22_0, u22_1, u22_2⟩ := hQ22
  have KK22 : Keep h0 T22.heap [a1] := KK21.trans K22 (allS (Or.inr sz_b21) all0)
  have N22 := Fr.app N20 Nq22
  have fc23 := (((fc17.wr W20).ext E21).keep K22)
  have nz24 := nl pr9.lt sz_b21
  have fc25 := (((((((pr10.ext E10).other W13 (Or.inr (slot_ne (Or.inr (wd97 hw)) (Or.inr (wd69 hw)) (by decide) (t := (.object s30)) (t' := (.array tV)) (by decide) (by decide)))).ext E14).keep K16 (ninS nz18 nin0)).other W20 (Or.inr (slot_ne (Or.inr (wd97 hw)) (Or.inr (wd95 hw)) (by decide) (t := (.object s30)) (t' := (.object s30)) (by decide) (by decide)))).ext E21).keep K22 (ninS nz24 nin0))
  obtain ⟨T26, h26, X26, e26, W26, st26⟩ := putF X22 hx hZ ho (host := "") (Or.inl (wd96 hw)) Via.refl rfl fc25 fc23 (Or.inr ⟨(wd97 hw), rfl, hnm⟩) (wd46 hw) (ty := (.object s30)) (by decide) rfl rfl (g := (mkF m 38 #[rv a1] [(.ref b21), (.ref a1)])) rfl rfl (hb hy d8_38)
  have Fw26 := fc25.same W26
  have KK26 : Keep h0 h26 [a1] := KK22.wr W26 (Or.inl (List.mem_of_getElem? (i := 0) rfl))
  have N26 := Fr.snoc X26 N22 pr7
  have fc27 := ((((((((pr11.ext E10).other W13 (Or.inr (slot_ne (Or.inl (wd191 hw)) (Or.inr (wd69 hw)) (by decide) (t := .boolean) (t' := (.array tV)) (by decide) (by decide)))).ext E14).keep K16 (ninS nz18 nin0)).other W20 (Or.inr (slot_ne (Or.inl (wd191 hw)) (Or.inr (wd95 hw)) (by decide) (t := .boolean) (t' := (.object s30)) (by decide) (by decide)))).ext E21).keep K22 (ninS nz24 nin0)).other W26 (Or.inr (slot_ne (Or.inl (wd191 hw)) (Or.inr (wd97 hw)) (by decide) (t := .boolean) (t' := (.object s30)) (by decide) (by decide))))
  have fc28 := (((Fw20.ext E21).keep K22 (ninS nz24 nin0)).other W26 (Or.inr (slot_ne (Or.inr (wd95 hw)) (Or.inr (wd97 hw)) (by decide) (t := (.object s30)) (t' := (.object s30)) (by decide) (by decide))))
  have fc29 := ((((((Fw13.ext E14).keep K16 (ninS nz18 nin0)).other W20 (Or.inr (slot_ne (Or.inr (wd69 hw)) (Or.inr (wd95 hw)) (by decide) (t := (.array tV)) (t' := (.object s30)) (by decide) (by decide)))).ext E21).keep K22 (ninS nz24 nin0)).other W26 (Or.inr (slot_ne (Or.inr (wd69 hw)) (Or.inr (wd97 hw)) (by decide) (t := (.array tV)) (t' := (.object s30)) (by decide) (by decide))))
  have fc30 := ((((((((pr12.ext E10).other W13 (Or.inr (slot_ne (Or.inl (wd104 hw)) (Or.inr (wd69 hw)) (by decide) (t := .boolean) (t' := (.array tV)) (by decide) (by decide)))).ext E14).keep K16 (ninS nz18 nin0)).other W20 (Or.inr (slot_ne (Or.inl (wd104 hw)) (Or.inr (wd95 hw)) (by decide) (t := .boolean) (t' := (.object s30)) (by decide) (by decide)))).ext E21).keep K22 (ninS nz24 nin0)).other W26 (Or.inr (slot_ne (Or.inl (wd104 hw)) (Or.inr (wd97 hw)) (by decide) (t := .boolean) (t' := (.object s30)) (by decide) (by decide))))
  have lz31 := (lq V10.lt (Nat.le_of_eq W13.size.symm))
  have nz32 := (nl lz31 (Nat.le_of_eq g14.symm))
  have lz33 := (lq (lq (lq lz31 E14.1) K16.1) (Nat.le_of_eq W20.size.symm))
  have nz34 := (nl lz33 (Nat.le_of_eq g21.symm))
  have lz35 := (lq u16_2.lt (Nat.le_of_eq W20.size.symm))
  have nz36 := (nl lz35 (Nat.le_of_eq g21.symm))
  have nz37 := nl pr9.lt sz_b10
  have fc38 := (((((((V10.other W13 (Ne.symm nz37)).ext E14).keep K16 (ninS nz32 nin0)).other W20 (Ne.symm nz37)).ext E21).keep K22 (ninS nz34 nin0)).other W26 (Ne.symm nz37))
  have fc39 := (((((((AE10.wr W13).ext E14).keep K16).wr W20).ext E21).keep K22).wr W26)
  have fc40 := (((((A14.keep K16).wr W20).ext E21).keep K22).wr W26)
  have fc41 := ((((u16_0.other W20 (Or.inl (Ne.symm nz18))).ext E21).keep K22 (ninS nz36 nin0)).other W26 (Or.inl (Ne.symm nz18)))
  have fc42 := ((((u16_1.other W20 (Or.inl (Ne.symm nz18))).ext E21).keep K22 (ninS nz36 nin0)).other W26 (Or.inl (Ne.symm nz18)))
  have fc43 := ((((u16_2.other W20 (Or.inl (Ne.symm nz18))).ext E21).keep K22 (ninS nz36 nin0)).other W26 (Or.inl (Ne.symm nz18)))
  have fc44 := ((A21.keep K22).wr W26)
  have fc45 := (u22_0.other W26 (Or.inl (Ne.symm nz24)))
  have fc46 := (u22_1.other W26 (Or.inl (Ne.symm nz24)))
  have fc47 := (u22_2.other W26 (Or.inl (Ne.symm nz24)))
  refine ⟨none, _, _, _, _, _, X26, e26, by decide, fun _ => rfl, fun fs hr => ?_, ?_⟩
  · refine xaloadN X0 hx hy d8_0 rfl rfl ?_
    refine st2 _ ?_
    refine xaloadN X2 hx hy d8_4 rfl rfl ?_
    refine st4 _ ?_
    refine st9 _ ?_
    refine st10 _ ?_
    refine st13 _ ?_
    refine xaloadN X13 hx hy d8_19 rfl rfl ?_
    refine st14 _ ?_
    refine XS.dup X14.here hx rfl (hb hy d8_23) rfl rfl ?_
    refine st16 _ ?_
    refine st20 _ ?_
    refine xaloadN X20 hx hy d8_30 rfl rfl ?_
    refine st21 _ ?_
    refine XS.dup X21.here hx rfl (hb hy d8_34) rfl rfl ?_
    refine st22 _ ?_
    refine st26 _ ?_
    show SS p e below T26 m 41 #[rv a1] [] _
    exact X26.returnOut hx hret (hb hy d8_41) hr
  · exact ⟨b10, b14, b21, k10, rfl, N26, KK26, sz_b10, sz_b14, sz_b21, nz32, nz34, nz36, fc29, fc28, Fw26, fc27, fc30, fc38, O10, fc39, fc40, fc41, fc42, fc43, fc44, fc45, fc46, fc47⟩
theorem cw10 {a0 Z} (hw : HW a0 Z) : CN a0 Z s47 26 mn8 0 (.code mn8 prog_66_method_1_code 1 none) :=
  ⟨rfl, wx hw 48 rfl, wx hw 49 rfl, wx hw 50 rfl, wx hw 47 rfl, by decide, _, _, pd_7, rfl⟩
theorem d13_0 : DC cb13 0 (.aload_n 0) 1 := by decide +kernel
theorem d13_1 : DC cb13 1 (.getfield 56) 3 := by decide +kernel
theorem d13_4 : DC cb13 4 (.ifCond .ne 7) 3 := by decide +kernel
theorem d13_7 : DC cb13 7 (.iconst 1) 1 := by decide +kernel
theorem d13_8 : DC cb13 8 (.goto 4) 3 := by decide +kernel
theorem d13_12 : DC cb13 12 (.ireturn) 1 := by decide +kernel
theorem ef_13_11 (m : MethodId) (x0 : Addr) : entryFrame m #[(.ref x0)] 1 = mkF m 0 #[.val (.ref x0)] [] := by first | (simp [entryFrame, mkF, argsToLocals, Value.category]; done) | rfl
theorem rm13_0 (l : Launch) (Z : State) (a0 : Array Value) (hw : HW a0 Z) (a1 : Addr) (h0 : Heap) (n0 : Nat) (OL0 : Old Z n0 h0) (pr1 : Fld Z h0 a1 s45 s48 "Z" vi0) :
    MF l Z mn13 prog_66_method_4_code 1 (some .boolean) ⟨0, 0, 0, 0⟩ #[(.ref a1)] h0 (QR n0 h0 (some vi1)) := by
  refine own_start (plainFor_of_name pn_7) (fun m => (ef_13_11 m a1)) ?_
  intro p e s m below meth c s₁ hZ hx hy hml ho hnm hret X0 e0
  have N0 := Fr.nil n0
  obtain ⟨T2, X2, e2, st2⟩ := gF X0 hx hZ ho (wd103 hw) Via.refl e0 pr1 1 #[rv a1] [] (hb hy d13_1)
  refine ⟨some vi1, _, _, _, _, _, X2, e2, by decide, nofun, fun fs hr => ?_, ?_⟩
  · refine xaloadN X0 hx hy d13_0 rfl rfl ?_
    refine st2 _ ?_
    refine XS.ifNo X2.here hx rfl (hb hy d13_4) rfl ((if0 _ _).trans (teq (rfl : o0 = o0)).2) ?_
    refine XS.iconst X2.here hx rfl (hb hy d13_7) ?_
    refine XS.goto X2.here hx rfl (pc0 := 8) (pc' := 12) rfl (hb hy d13_8) (by decide) (by decide) ?_
    show SS p e below T2 m 12 #[rv a1] [vi1] _
    exact retN X2 hx (t := .boolean) hret (by simp) (hb hy d13_12) hr
  · exact ⟨rfl, N0, rfl⟩
theorem pd_8 : parseMethodDescriptor "()Z" = some ⟨[], some .boolean⟩ := by decide +kernel
theorem cw11 {a0 Z} (hw : HW a0 Z) : CV a0 Z s47 27 mn13 mn13 s45 0 (.code mn13 prog_66_method_4_code 1 (some .boolean)) :=
  ⟨wx hw 98 rfl, wx hw 99 rfl, (fun _ hZ => notFace_of_selects (args := #[]) (mvT hZ (wd101 hw))), wx hw 101 rfl, wx hw 100 rfl, wx hw 102 rfl, wx hw 47 rfl, by decide, _, _, pd_8, rfl⟩
abbrev SG (p : Program) (l : Launch) (e : Env) (s : State) (m : MethodId) (args : Array Value) (below : List Frame) (meth : Method) (c : Code) (T : State) (n0 : Nat) (pc : Nat) (Ls : Array Slot) : Prop :=
  ∃ T' L k j, Stand p l e room_1 s m args below meth c T' L k j ∧ (k ≤ 80 ∧ j ≤ 320) ∧ Fr n0 L ∧ ∀ fs, RT T' e m (some (.int 1)) fs → Steps p.tables e below (T.setTop (mkF m pc Ls [])) (T'.setFrames fs)
abbrev ST (Z : State) (p : Program) (l : Launch) (e : Env) (s : State) (m : MethodId) (args : Array Value) (below : List Frame) (meth : Method) (c : Code) (T : State) (locs : List Loc) (cells slots : Nat) (h0 : Heap) (n0 : Nat) : Prop :=
  Z.Warmed39 s.vm ∧ p.tables.exec = Jvm.exec ∧ c.code = code ∧ c.maxLocals = 21 ∧ s.vm.findClass "shadowsift/iptables/ConditionExactPinLaw" = some m.cls ∧ meth.name = x.name ∧ meth.sig.returnType = ret ∧ Stand p l e room_1 s m args below meth c T locs cells slots ∧ T.heap = h0 ∧ Fr n0 locs
variable {p : Program} {e : Env} {s : State} {m : MethodId} {args : Array Value} {below : List Frame} {meth : Method} {c : Code} {T0 : State} {locs : List Loc} {cells slots : Nat}
theorem sg216_0 (l : Launch) (Z : State) (a0 : Array Value) (hw : HW a0 Z) (p1 p2 : Int32) (q3 q4 : Int64) (p5 : Int32) (q6 q7 : Int64) (p8 p9 p10 : Int32) (a11 a12 a13 : Addr) (h0 : Heap) (n0 : Nat) (OL0 : Old Z n0 h0) (pr1 : Fld Z h0 a13 s45 s48 "Z" vi0) (pr2 : Exa Z h0 a13 s45)
    (st0 : ST Z p l e s m args below meth c T0 locs cells slots h0 n0) (hcl : cells + 0 ≤ 80) (hsl : slots + 0 ≤ 320) : SG p l e s m args below meth c T0 n0 216 (LV p1 p2 q3 q4 p5 q6 q7 p8 p9 p10 a11 a12 a13 (iv o1) (iv o0) uu) := by
  obtain ⟨hZ, hx, hy, hml, ho, hnm, hret, X0, e0, N0⟩ := st0
  have pre0 : ∀ t, SS p e below T0 m 216 (LV p1 p2 q3 q4 p5 q6 q7 p8 p9 p10 a11 a12 a13 (iv o1) (iv o0) uu) [] t → SS p e below T0 m 216 (LV p1 p2 q3 q4 p5 q6 q7 p8 p9 p10 a11 a12 a13 (iv o1) (iv o0) uu) [] t := fun _ k => k
  obtain ⟨_, T14, L14, X14, hQ14, st14⟩ := own_cV X0 hx hZ ho hml (cw11 hw) (rm13_0 l Z a0 hw a13 h0 n0 OL0 pr1) e0 pr2 218 (LV p1 p2 q3 q4 p5 q6 q7 p8 p9 p10 a11 a12 a13 (iv o1) (iv o0) uu) [] [] 0 rfl (hb hy at_218) ⟨by decide, by decide, by show cells + 0 ≤ 80; omega, by show slots + 0 ≤ 320; omega⟩
  obtain ⟨rfl, Nq14, ec14⟩ := hQ14
  have N14 := Fr.app N0 Nq14
  refine ⟨_, _, _, _, X14, ⟨by show cells + 0 ≤ 80; omega, by show slots + 0 ≤ 320; omega⟩, N14, fun fs hr => pre0 _ ?_⟩
  refine xaload X0 hx hy at_216 rfl rfl ?_
  refine st14 _ ?_
  refine XS.istore X14.here hx rfl (hb hy at_221) rfl (l' := (LV p1 p2 q3 q4 p5 q6 q7 p8 p9 p10 a11 a12 a13 (iv o1) (iv o0) (iv o1))) rfl ?_
  refine xiload X14 hx hy at_223 rfl ?_
  refine XS.ifNo X14.here hx rfl (hb hy at_225) rfl ((if0 _ _).trans (feq (by decide : ¬ (o1 = o0))).1) ?_
  refine xiload X14 hx hy at_228 rfl ?_
  refine XS.ifNo X14.here hx rfl (hb hy at_230) rfl ((if0 _ _).trans (feq (by decide : ¬ (o1 = o0))).1) ?_
  refine xiload X14 hx hy at_233 rfl ?_
  refine xiload X14 hx hy at_235 rfl ?_
  refine XS.ifNo X14.here hx rfl (hb hy at_237) rfl ((if0 _ _).trans (teq (rfl : o0 = o0)).2) ?_
  refine XS.iconst X14.here hx rfl (hb hy at_240) ?_
  refine XS.goto X14.here hx rfl (pc0 := 241) (pc' := 245) rfl (hb hy at_241) (by decide) (by decide) ?_
  refine XS.icmpNo X14.here hx rfl (hb hy at_245) rfl (teq (rfl : o1 = o1)).2 ?_
  refine XS.iconst X14.here hx rfl (hb hy at_248) ?_
  refine XS.goto X14.here hx rfl (pc0 := 249) (pc' := 253) rfl (hb hy at_249) (by decide) (by decide) ?_
  show SS p e below T14 m 253 (LV p1 p2 q3 q4 p5 q6 q7 p8 p9 p10 a11 a12 a13 (iv o1) (iv o0) (iv o1)) [vi1] _
  exact retN X14 hx (t := .boolean) hret (by simp) (hb hy at_253) hr
theorem d29_0 : DC cb29 0 (.aload_n 0) 1 := by decide +kernel
theorem d29_1 : DC cb29 1 (.getfield 21) 3 := by decide +kernel
theorem d29_4 : DC cb29 4 (.iload_n 1) 1 := by decide +kernel
theorem d29_5 : DC cb29 5 (.aaload) 1 := by decide +kernel
theorem d29_6 : DC cb29 6 (.ifnonnull 11) 3 := by decide +kernel
theorem d29_9 : DC cb29 9 (.aload_n 0) 1 := by decide +kernel
theorem d29_10 : DC cb29 10 (.getfield 21) 3 := by decide +kernel
theorem d29_13 : DC cb29 13 (.iload_n 1) 1 := by decide +kernel
theorem d29_14 : DC cb29 14 (.aload_n 2) 1 := by decide +kernel
theorem d29_15 : DC cb29 15 (.aastore) 1 := by decide +kernel
theorem d29_16 : DC cb29 16 (.return_) 1 := by decide +kernel
theorem ef_29_12 (m : MethodId) (x0 : Addr) (x1 : Int32) (x2 : Addr) : entryFrame m #[(.ref x0), (.int x1), (.ref x2)] 4 = mkF m 0 #[.val (.ref x0), .val (.int x1), .val (.ref x2), .unset] [] := by first | (simp [entryFrame, mkF, argsToLocals, Value.category]; done) | rfl
theorem rm29_0 (l : Launch) (Z : State) (a0 : Array Value) (hw : HW a0 Z) (a1 : Addr) (p2 : Int32) (a3 a4 : Addr) (k6 : ClassId) (h0 : Heap) (n0 : Nat) (OL0 : Old Z n0 h0) (pr1 : Fld Z h0 a1 s45 "sets" s8 (.ref a4)) (pr2 : Asl Z h0 a4 k6 tV o12 p2 .null) (pr3 : n0 ≤ a4) (pr4 : Ovr Z k6 s43) (pr5 : Exa Z h0 a3 s43) :
    MF l Z mn29 prog_66_method_2_code 4 none ⟨0, 0, 0, 0⟩ #[(.ref a1), (.int p2), (.ref a3)] h0 (fun v h L => v = none ∧ Fr n0 L ∧ Keep h0 h [a4] ∧ Asl Z h a4 k6 tV o12 p2 (.ref a3)) := by
  refine own_start (plainFor_of_name pn_7) (fun m => (ef_29_12 m a1 p2 a3)) ?_
  intro p e s m below meth c s₁ hZ hx hy hml ho hnm hret X0 e0
  have N0 := Fr.nil n0
  obtain ⟨T5, X5, e5, st5⟩ := gF X0 hx hZ ho (wd68 hw) Via.refl e0 pr1 1 #[rv a1, iv p2, rv a3, uu] [] (hb hy d29_1)
  obtain ⟨T8, X8, e8, st8⟩ := gF X5 hx hZ ho (wd68 hw) Via.refl e5 pr1 10 #[rv a1, iv p2, rv a3, uu] [] (hb hy d29_10)
  obtain ⟨T10, h10, X10, e10, W10, V10, st10⟩ := own_sA X8 hx hZ e8 pr2 (.ref a3) rfl rfl (fun _ A q => Sto.ofV A q pr4 (Ins.self pr5)) [] 15 #[rv a1, iv p2, rv a3, uu] (hb hy d29_15)
  have KK10 : Keep h0 h10 [a4] := (Keep.refl h0 [a4]).wr W10 (Or.inl (List.mem_of_getElem? (i := 0) rfl))
  have N10 := Fr.snoc X10 N0 pr3
  refine ⟨none, _, _, _, _, _, X10, e10, by decide, fun _ => rfl, fun fs hr => ?_, ?_⟩
  · refine xaloadN X0 hx hy d29_0 rfl rfl ?_
    refine st5 _ ?_
    refine xiloadN X5 hx hy d29_4 rfl ?_
    refine own_lA X5 hx hZ e5 pr2 rfl (hb hy d29_5) ?_
    refine XS.ifnonnullNo X5.here hx rfl (hb hy d29_6) rfl ?_
    refine xaloadN X5 hx hy d29_9 rfl rfl ?_
    refine st8 _ ?_
    refine xiloadN X8 hx hy d29_13 rfl ?_
    refine xaloadN X8 hx hy d29_14 rfl rfl ?_
    refine st10 _ ?_
    show SS p e below T10 m 16 #[rv a1, iv p2, rv a3, uu] [] _
    exact X10.returnOut hx hret (hb hy d29_16) hr
  · exact ⟨rfl, N10, KK10, V10⟩
theorem pd_9 : parseMethodDescriptor "(ILshadowsift/core/ValueSet;)V" = some ⟨[.int, (.object "shadowsift/core/ValueSet")], none⟩ := by decide +kernel
theorem cw12 {a0 Z} (hw : HW a0 Z) : CV a0 Z s47 31 mn29 mn29 s45 2 (.code mn29 prog_66_method_2_code 4 none) :=
  ⟨wx hw 257 rfl, wx hw 214 rfl, (fun _ hZ => notFace_of_selects (args := #[]) (mvT hZ (wd216 hw))), wx hw 216 rfl, wx hw 215 rfl, wx hw 217 rfl, wx hw 47 rfl, by decide, _, _, pd_9, rfl⟩
theorem sg199_0 (l : Launch) (Z : State) (a0 : Array Value) (hw : HW a0 Z) (p1 p2 : Int32) (q3 q4 : Int64) (p5 : Int32) (q6 q7 : Int64) (p8 p9 p10 : Int32) (a11 a12 a13 a16 : Addr) (k17 : ClassId) (h0 : Heap) (n0 : Nat) (OL0 : Old Z n0 h0) (pr1 : Fld Z h0 a13 s45 s48 "Z" vi0) (pr2 : Exa Z h0 a13 s45) (pr3 : Fld Z h0 a13 s45 "sets" s8 (.ref a16)) (pr4 : Asl Z h0 a16 k17 tV o12 p5 .null) (pr5 : n0 ≤ a16) (pr6 : Ovr Z k17 s43) (pr7 : Exa Z h0 a12 s43) (pr8 : a13 ≠ a16)
    (st0 : ST Z p l e s m args below meth c T0 locs cells slots h0 n0) (hcl : cells + 0 ≤ 80) (hsl : slots + 0 ≤ 320) : SG p l e s m args below meth c T0 n0 199 (LV p1 p2 q3 q4 p5 q6 q7 p8 p9 p10 a11 a12 a13 (iv o1) (iv o0) uu) := by
  obtain ⟨hZ, hx, hy, hml, ho, hnm, hret, X0, e0, N0⟩ := st0
  have pre0 : ∀ t, SS p e below T0 m 199 (LV p1 p2 q3 q4 p5 q6 q7 p8 p9 p10 a11 a12 a13 (iv o1) (iv o0) uu) [] t → SS p e below T0 m 199 (LV p1 p2 q3 q4 p5 q6 q7 p8 p9 p10 a11 a12 a13 (iv o1) (iv o0) uu) [] t := fun _ k => k
  have pre14 : ∀ t, SS p e below T0 m 204 (LV p1 p2 q3 q4 p5 q6 q7 p8 p9 p10 a11 a12 a13 (iv o1) (iv o0) uu) [(.int (p1 &&& (128 : Int32)))] t → SS p e below T0 m 199 (LV p1 p2 q3 q4 p5 q6 q7 p8 p9 p10 a11 a12 a13 (iv o1) (iv o0) uu) [] t := by
    intro t kt
    refine pre0 _ ?_
    refine xiloadN X0 hx hy at_199 rfl ?_
    refine XS.sipush X0.here hx rfl (hb hy at_200) ?_
    refine XS.iand X0.here hx rfl (hb hy at_203) rfl ?_
    exact kt
  by_cases hf14 : (p1 &&& (128 : Int32)) = o0
  · obtain ⟨_, _, _, _, XX15, hk15, hN15, sg15⟩ := sg216_0 l Z a0 hw p1 p2 q3 q4 p5 q6 q7 p8 p9 p10 a11 a12 a13 h0 n0 OL0 pr1 pr2 ⟨hZ, hx, hy, hml, ho, hnm, hret, X0, e0, N0⟩ (by show cells + 0 ≤ 80; omega) (by show slots + 0 ≤ 320; omega)
    refine ⟨_, _, _, _, XX15, hk15, hN15, fun fs hr => pre14 _ ?_⟩
    refine XS.ifYes X0.here hx rfl (pc0 := 204) (pc' := 216) rfl (hb hy at_204) rfl ((if0 _ _).trans (teq hf14).1) (by decide) (by decide) ?_
    exact sg15 fs hr
  · obtain ⟨_, T18, L18, X18, hQ18, st18⟩ := own_cV X0 hx hZ ho hml (cw12 hw) (rm29_0 l Z a0 hw a13 p5 a12 a16 k17 h0 n0 OL0 pr3 pr4 pr5 pr6 pr7) e0 pr2 213 (LV p1 p2 q3 q4 p5 q6 q7 p8 p9 p10 a11 a12 a13 (iv o1) (iv o0) uu) [(.int p5), (.ref a12)] [] 0 rfl (hb hy at_213) ⟨by decide, by decide, by show cells + 0 ≤ 80; omega, by show slots + 0 ≤ 320; omega⟩
    obtain ⟨rfl, Nq18, K18, u18_0⟩ := hQ18
    have OL18 := OL0.keep K18 (allS pr5 all0)
    have N18 := Fr.app N0 Nq18
    have fc20 := (pr1.keep K18 (ninS pr8 nin0))
    have fc21 := (pr2.keep K18)
    obtain ⟨_, _, _, _, XX19, hk19, hN19, sg19⟩ := sg216_0 l Z a0 hw p1 p2 q3 q4 p5 q6 q7 p8 p9 p10 a11 a12 a13 T18.heap n0 OL18 fc20 fc21 ⟨hZ, hx, hy, hml, ho, hnm, hret, X18, rfl, N18⟩ (by show cells + 0 + 0 ≤ 80; omega) (by show slots + 0 + 0 ≤ 320; omega)
    refine ⟨_, _, _, _, XX19, hk19, hN19, fun fs hr => pre14 _ ?_⟩
    refine XS.ifNo X0.here hx rfl (hb hy at_204) rfl ((if0 _ _).trans (feq hf14).1) ?_
    refine xaload X0 hx hy at_207 rfl rfl ?_
    refine xiload X0 hx hy at_209 rfl ?_
    refine xaload X0 hx hy at_211 rfl rfl ?_
    refine st18 _ ?_
    exact sg19 fs hr
theorem d43_0 : DC cb43 0 (.aload_n 0) 1 := by decide +kernel
theorem d43_1 : DC cb43 1 (.iconst 1) 1 := by decide +kernel
theorem d43_2 : DC cb43 2 (.putfield 56) 3 := by decide +kernel
theorem d43_5 : DC cb43 5 (.return_) 1 := by decide +kernel
theorem ef_43_13 (m : MethodId) (x0 : Addr) : entryFrame m #[(.ref x0)] 1 = mkF m 0 #[.val (.ref x0)] [] := by first | (simp [entryFrame, mkF, argsToLocals, Value.category]; done) | rfl
theorem rm43_0 (l : Launch) (Z : State) (a0 : Array Value) (hw : HW a0 Z) (a1 a3 : Addr) (p5 : Int32) (a7 a9 : Addr) (h0 : Heap) (n0 : Nat) (OL0 : Old Z n0 h0) (pr1 : Exa Z h0 a1 s45) (pr2 : Fld Z h0 a1 s45 s48 "Z" vi0) (pr3 : n0 ≤ a1) (pr4 : Fld Z h0 a1 s45 s11 s5 (.ref a3)) (pr5 : Fld Z h0 a1 s45 s15 "Z" (.int p5)) (pr6 : Fld Z h0 a1 s45 s16 s5 (.ref a7)) (pr7 : Fld Z h0 a1 s45 "sets" s8 (.ref a9)) :
    MF l Z mn43 prog_66_method_3_code 1 none ⟨0, 0, 0, 0⟩ #[(.ref a1)] h0 (fun v h L => v = none ∧ Fr n0 L ∧ Keep h0 h [a1] ∧ Fld Z h a1 s45 s48 "Z" vi1 ∧ Fld Z h a1 s45 s11 s5 (.ref a3) ∧ Fld Z h a1 s45 s15 "Z" (.int p5) ∧ Fld Z h a1 s45 s16 s5 (.ref a7) ∧ Fld Z h a1 s45 "sets" s8 (.ref a9)) := by
  refine own_start (plainFor_of_name pn_7) (fun m => (ef_43_13 m a1)) ?_
  intro p e s m below meth c s₁ hZ hx hy hml ho hnm hret X0 e0
  have N0 := Fr.nil n0
  obtain ⟨T2, h2, X2, e2, W2, st2⟩ := putFN X0 hx hZ ho (wd103 hw) Via.refl e0 pr2 pr1 (Or.inl (wd104 hw)) (wd46 hw) (ty := .boolean) (v' := vi1) (by decide) rfl rfl (g := (mkF m 2 #[rv a1] [vi1, (.ref a1)])) rfl rfl (hb hy d43_2)
  have Fw2 := pr2.same W2
  have KK2 : Keep h0 h2 [a1] := (Keep.refl h0 [a1]).wr W2 (Or.inl (List.mem_of_getElem? (i := 0) rfl))
  have N2 := Fr.snoc X2 N0 pr3
  have fc4 := (pr4.other W2 (Or.inr (slot_ne (Or.inr (wd97 hw)) (Or.inl (wd104 hw)) (by decide) (t := (.object s30)) (t' := .boolean) (by decide) (by decide))))
  have fc6 := (pr5.other W2 (Or.inr (slot_ne (Or.inl (wd191 hw)) (Or.inl (wd104 hw)) (by decide) (t := .boolean) (t' := .boolean) (by decide) (by decide))))
  have fc8 := (pr6.other W2 (Or.inr (slot_ne (Or.inr (wd95 hw)) (Or.inl (wd104 hw)) (by decide) (t := (.object s30)) (t' := .boolean) (by decide) (by decide))))
  have fc10 := (pr7.other W2 (Or.inr (slot_ne (Or.inr (wd69 hw)) (Or.inl (wd104 hw)) (by decide) (t := (.array tV)) (t' := .boolean) (by decide) (by decide))))
  refine ⟨none, _, _, _, _, _, X2, e2, by decide, fun _ => rfl, fun fs hr => ?_, ?_⟩
  · refine xaloadN X0 hx hy d43_0 rfl rfl ?_
    refine XS.iconst X0.here hx rfl (hb hy d43_1) ?_
    refine st2 _ ?_
    show SS p e below T2 m 5 #[rv a1] [] _
    exact X2.returnOut hx hret (hb hy d43_5) hr
  · exact ⟨rfl, N2, KK2, Fw2, fc4, fc6, fc8, fc10⟩
theorem cw13 {a0 Z} (hw : HW a0 Z) : CV a0 Z s47 49 mn43 mn43 s45 0 (.code mn43 prog_66_method_3_code 1 none) :=
  ⟨wx hw 307 rfl, wx hw 308 rfl, (fun _ hZ => notFace_of_selects (args := #[]) (mvT hZ (wd310 hw))), wx hw 310 rfl, wx hw 309 rfl, wx hw 311 rfl, wx hw 47 rfl, by decide, _, _, pd_7, rfl⟩
theorem d13_11 : DC cb13 11 (.iconst 0) 1 := by decide +kernel
theorem rm13_1 (l : Launch) (Z : State) (a0 : Array Value) (hw : HW a0 Z) (a1 : Addr) (h0 : Heap) (n0 : Nat) (OL0 : Old Z n0 h0) (pr1 : Fld Z h0 a1 s45 s48 "Z" vi1) :
    MF l Z mn13 prog_66_method_4_code 1 (some .boolean) ⟨0, 0, 0, 0⟩ #[(.ref a1)] h0 (QR n0 h0 (some vi0)) := by
  refine own_start (plainFor_of_name pn_7) (fun m => (ef_13_11 m a1)) ?_
  intro p e s m below meth c s₁ hZ hx hy hml ho hnm hret X0 e0
  have N0 := Fr.nil n0
  obtain ⟨T2, X2, e2, st2⟩ := gF X0 hx hZ ho (wd103 hw) Via.refl e0 pr1 1 #[rv a1] [] (hb hy d13_1)
  refine ⟨some vi0, _, _, _, _, _, X2, e2, by decide, nofun, fun fs hr => ?_, ?_⟩
  · refine xaloadN X0 hx hy d13_0 rfl rfl ?_
    refine st2 _ ?_
    refine XS.ifYes X2.here hx rfl (pc0 := 4) (pc' := 11) rfl (hb hy d13_4) rfl ((if0 _ _).trans (feq (by decide : ¬ (o1 = o0))).2) (by decide) (by decide) ?_
    refine XS.iconst X2.here hx rfl (hb hy d13_11) ?_
    show SS p e below T2 m 12 #[rv a1] [vi0] _
    exact retN X2 hx (t := .boolean) hret (by simp) (hb hy d13_12) hr
  · exact ⟨rfl, N0, rfl⟩
theorem sg216_1 (l : Launch) (Z : State) (a0 : Array Value) (hw : HW a0 Z) (p1 p2 : Int32) (q3 q4 : Int64) (p5 : Int32) (q6 q7 : Int64) (p8 p9 p10 : Int32) (a11 a12 a13 : Addr) (h0 : Heap) (n0 : Nat) (OL0 : Old Z n0 h0) (pr1 : Fld Z h0 a13 s45 s48 "Z" vi1) (pr2 : Exa Z h0 a13 s45)
    (st0 : ST Z p l e s m args below meth c T0 locs cells slots h0 n0) (hcl : cells + 0 ≤ 80) (hsl : slots + 0 ≤ 320) : SG p l e s m args below meth c T0 n0 216 (LV p1 p2 q3 q4 p5 q6 q7 p8 p9 p10 a11 a12 a13 (iv o1) (iv o1) uu) := by
  obtain ⟨hZ, hx, hy, hml, ho, hnm, hret, X0, e0, N0⟩ := st0
  have pre0 : ∀ t, SS p e below T0 m 216 (LV p1 p2 q3 q4 p5 q6 q7 p8 p9 p10 a11 a12 a13 (iv o1) (iv o1) uu) [] t → SS p e below T0 m 216 (LV p1 p2 q3 q4 p5 q6 q7 p8 p9 p10 a11 a12 a13 (iv o1) (iv o1) uu) [] t := fun _ k => k
  obtain ⟨_, T14, L14, X14, hQ14, st14⟩ := own_cV X0 hx hZ ho hml (cw11 hw) (rm13_1 l Z a0 hw a13 h0 n0 OL0 pr1) e0 pr2 218 (LV p1 p2 q3 q4 p5 q6 q7 p8 p9 p10 a11 a12 a13 (iv o1) (iv o1) uu) [] [] 0 rfl (hb hy at_218) ⟨by decide, by decide, by show cells + 0 ≤ 80; omega, by show slots + 0 ≤ 320; omega⟩
  obtain ⟨rfl, Nq14, ec14⟩ := hQ14
  have N14 := Fr.app N0 Nq14
  refine ⟨_, _, _, _, X14, ⟨by show cells + 0 ≤ 80; omega, by show slots + 0 ≤ 320; omega⟩, N14, fun fs hr => pre0 _ ?_⟩
  refine xaload X0 hx hy at_216 rfl rfl ?_
  refine st14 _ ?_
  refine XS.istore X14.here hx rfl (hb hy at_221) rfl (l' := (LV p1 p2 q3 q4 p5 q6 q7 p8 p9 p10 a11 a12 a13 (iv o1) (iv o1) (iv o0))) rfl ?_
  refine xiload X14 hx hy at_223 rfl ?_
  refine XS.ifNo X14.here hx rfl (hb hy at_225) rfl ((if0 _ _).trans (feq (by decide : ¬ (o1 = o0))).1) ?_
  refine xiload X14 hx hy at_228 rfl ?_
  refine XS.ifNo X14.here hx rfl (hb hy at_230) rfl ((if0 _ _).trans (feq (by decide : ¬ (o1 = o0))).1) ?_
  refine xiload X14 hx hy at_233 rfl ?_
  refine xiload X14 hx hy at_235 rfl ?_
  refine XS.ifYes X14.here hx rfl (pc0 := 237) (pc' := 244) rfl (hb hy at_237) rfl ((if0 _ _).trans (feq (by decide : ¬ (o1 = o0))).2) (by decide) (by decide) ?_
  refine XS.iconst X14.here hx rfl (hb hy at_244) ?_
  refine XS.icmpNo X14.here hx rfl (hb hy at_245) rfl (teq (rfl : o0 = o0)).2 ?_
  refine XS.iconst X14.here hx rfl (hb hy at_248) ?_
  refine XS.goto X14.here hx rfl (pc0 := 249) (pc' := 253) rfl (hb hy at_249) (by decide) (by decide) ?_
  show SS p e below T14 m 253 (LV p1 p2 q3 q4 p5 q6 q7 p8 p9 p10 a11 a12 a13 (iv o1) (iv o1) (iv o0)) [vi1] _
  exact retN X14 hx (t := .boolean) hret (by simp) (hb hy at_253) hr
theorem sg199_1 (l : Launch) (Z : State) (a0 : Array Value) (hw : HW a0 Z) (p1 p2 : Int32) (q3 q4 : Int64) (p5 : Int32) (q6 q7 : Int64) (p8 p9 p10 : Int32) (a11 a12 a13 a16 : Addr) (k17 : ClassId) (h0 : Heap) (n0 : Nat) (OL0 : Old Z n0 h0) (pr1 : Fld Z h0 a13 s45 s48 "Z" vi1) (pr2 : Exa Z h0 a13 s45) (pr3 : Fld Z h0 a13 s45 "sets" s8 (.ref a16)) (pr4 : Asl Z h0 a16 k17 tV o12 p5 .null) (pr5 : n0 ≤ a16) (pr6 : Ovr Z k17 s43) (pr7 : Exa Z h0 a12 s43) (pr8 : a13 ≠ a16)
    (st0 : ST Z p l e s m args below meth c T0 locs cells slots h0 n0) (hcl : cells + 0 ≤ 80) (hsl : slots + 0 ≤ 320) : SG p l e s m args below meth c T0 n0 199 (LV p1 p2 q3 q4 p5 q6 q7 p8 p9 p10 a11 a12 a13 (iv o1) (iv o1) uu) := by
  obtain ⟨hZ, hx, hy, hml, ho, hnm, hret, X0, e0, N0⟩ := st0
  have pre0 : ∀ t, SS p e below T0 m 199 (LV p1 p2 q3 q4 p5 q6 q7 p8 p9 p10 a11 a12 a13 (iv o1) (iv o1) uu) [] t → SS p e below T0 m 199 (LV p1 p2 q3 q4 p5 q6 q7 p8 p9 p10 a11 a12 a13 (iv o1) (iv o1) uu) [] t := fun _ k => k
  have pre14 : ∀ t, SS p e below T0 m 204 (LV p1 p2 q3 q4 p5 q6 q7 p8 p9 p10 a11 a12 a13 (iv o1) (iv o1) uu) [(.int (p1 &&& (128 : Int32)))] t → SS p e below T0 m 199 (LV p1 p2 q3 q4 p5 q6 q7 p8 p9 p10 a11 a12 a13 (iv o1) (iv o1) uu) [] t := by
    intro t kt
    refine pre0 _ ?_
    refine xiloadN X0 hx hy at_199 rfl ?_
    refine XS.sipush X0.here hx rfl (hb hy at_200) ?_
    refine XS.iand X0.here hx rfl (hb hy at_203) rfl ?_
    exact kt
  by_cases hf14 : (p1 &&& (128 : Int32)) = o0
  · obtain ⟨_, _, _, _, XX15, hk15, hN15, sg15⟩ := sg216_1 l Z a0 hw p1 p2 q3 q4 p5 q6 q7 p8 p9 p10 a11 a12 a13 h0 n0 OL0 pr1 pr2 ⟨hZ, hx, hy, hml, ho, hnm, hret, X0, e0, N0⟩ (by show cells + 0 ≤ 80; omega) (by show slots + 0 ≤ 320; omega)
    refine ⟨_, _, _, _, XX15, hk15, hN15, fun fs hr => pre14 _ ?_⟩
    refine XS.ifYes X0.here hx rfl (pc0 := 204) (pc' := 216) rfl (hb hy at_204) rfl ((if0 _ _).trans (teq hf14).1) (by decide) (by decide) ?_
    exact sg15 fs hr
  · obtain ⟨_, T18, L18, X18, hQ18, st18⟩ := own_cV X0 hx hZ ho hml (cw12 hw) (rm29_0 l Z a0 hw a13 p5 a12 a16 k17 h0 n0 OL0 pr3 pr4 pr5 pr6 pr7) e0 pr2 213 (LV p1 p2 q3 q4 p5 q6 q7 p8 p9 p10 a11 a12 a13 (iv o1) (iv o1) uu) [(.int p5), (.ref a12)] [] 0 rfl (hb hy at_213) ⟨by decide, by decide, by show cells + 0 ≤ 80; omega, by show slots + 0 ≤ 320; omega⟩
    obtain ⟨rfl, Nq18, K18, u18_0⟩ := hQ18
    have OL18 := OL0.keep K18 (allS pr5 all0)
    have N18 := Fr.app N0 Nq18
    have fc20 := (pr1.keep K18 (ninS pr8 nin0))
    have fc21 := (pr2.keep K18)
    obtain ⟨_, _, _, _, XX19, hk19, hN19, sg19⟩ := sg216_1 l Z a0 hw p1 p2 q3 q4 p5 q6 q7 p8 p9 p10 a11 a12 a13 T18.heap n0 OL18 fc20 fc21 ⟨hZ, hx, hy, hml, ho, hnm, hret, X18, rfl, N18⟩ (by show cells + 0 + 0 ≤ 80; omega) (by show slots + 0 + 0 ≤ 320; omega)
    refine ⟨_, _, _, _, XX19, hk19, hN19, fun fs hr => pre14 _ ?_⟩
    refine XS.ifNo X0.here hx rfl (hb hy at_204) rfl ((if0 _ _).trans (feq hf14).1) ?_
    refine xaload X0 hx hy at_207 rfl rfl ?_
    refine xiload X0 hx hy at_209 rfl ?_
    refine xaload X0 hx hy at_211 rfl rfl ?_
    refine st18 _ ?_
    exact sg19 fs hr
theorem sg168_0 (l : Launch) (Z : State) (a0 : Array Value) (hw : HW a0 Z) (p1 p2 : Int32) (q3 q4 : Int64) (p5 : Int32) (q6 q7 : Int64) (p8 p9 p10 : Int32) (a11 a12 a13 a16 : Addr) (k17 : ClassId) (a19 : Addr) (p20 : Int32) (a21 : Addr) (h0 : Heap) (n0 : Nat) (OL0 : Old Z n0 h0) (pr1 : Fld Z h0 a13 s45 s48 "Z" vi0) (pr2 : Exa Z h0 a13 s45) (pr3 : Fld Z h0 a13 s45 "sets" s8 (.ref a16)) (pr4 : Asl Z h0 a16 k17 tV o12 p5 .null) (pr5 : n0 ≤ a16) (pr6 : Ovr Z k17 s43) (pr7 : Exa Z h0 a12 s43) (pr8 : a13 ≠ a16) (pr9 : n0 ≤ a13) (pr10 : Fld Z h0 a13 s45 s11 s5 (.ref a19)) (pr11 : Fld Z h0 a13 s45 s15 "Z" (.int p20)) (pr12 : Fld Z h0 a13 s45 s16 s5 (.ref a21)) (pr13 : a16 ≠ a13)
    (st0 : ST Z p l e s m args below meth c T0 locs cells slots h0 n0) (hcl : cells + 0 ≤ 80) (hsl : slots + 0 ≤ 320) : SG p l e s m args below meth c T0 n0 168 (LV p1 p2 q3 q4 p5 q6 q7 p8 p9 p10 a11 a12 a13 uu uu uu) := by
  obtain ⟨hZ, hx, hy, hml, ho, hnm, hret, X0, e0, N0⟩ := st0
  have pre0 : ∀ t, SS p e below T0 m 168 (LV p1 p2 q3 q4 p5 q6 q7 p8 p9 p10 a11 a12 a13 uu uu uu) [] t → SS p e below T0 m 168 (LV p1 p2 q3 q4 p5 q6 q7 p8 p9 p10 a11 a12 a13 uu uu uu) [] t := fun _ k => k
  obtain ⟨_, T14, L14, X14, hQ14, st14⟩ := own_cV X0 hx hZ ho hml (cw11 hw) (rm13_0 l Z a0 hw a13 h0 n0 OL0 pr1) e0 pr2 170 (LV p1 p2 q3 q4 p5 q6 q7 p8 p9 p10 a11 a12 a13 uu uu uu) [] [] 0 rfl (hb hy at_170) ⟨by decide, by decide, by show cells + 0 ≤ 80; omega, by show slots + 0 ≤ 320; omega⟩
  obtain ⟨rfl, Nq14, ec14⟩ := hQ14
  have N14 := Fr.app N0 Nq14
  have pre15 : ∀ t, SS p e below T14 m 179 (LV p1 p2 q3 q4 p5 q6 q7 p8 p9 p10 a11 a12 a13 (iv o1) uu uu) [(.int (p1 &&& (64 : Int32)))] t → SS p e below T0 m 168 (LV p1 p2 q3 q4 p5 q6 q7 p8 p9 p10 a11 a12 a13 uu uu uu) [] t := by
    intro t kt
    refine pre0 _ ?_
    refine xaload X0 hx hy at_168 rfl rfl ?_
    refine st14 _ ?_
    refine XS.istore X14.here hx rfl (hb hy at_173) rfl (l' := (LV p1 p2 q3 q4 p5 q6 q7 p8 p9 p10 a11 a12 a13 (iv o1) uu uu)) rfl ?_
    refine xiloadN X14 hx hy at_175 rfl ?_
    refine XS.bipush X14.here hx rfl (hb hy at_176) ?_
    refine XS.iand X14.here hx rfl (hb hy at_178) rfl ?_
    exact kt
  by_cases hf15 : (p1 &&& (64 : Int32)) = o0
  · obtain ⟨_, _, _, _, XX18, hk18, hN18, sg18⟩ := sg199_0 l Z a0 hw p1 p2 q3 q4 p5 q6 q7 p8 p9 p10 a11 a12 a13 a16 k17 h0 n0 OL0 pr1 pr2 pr3 pr4 pr5 pr6 pr7 pr8 ⟨hZ, hx, hy, hml, ho, hnm, hret, X14, ec14, N14⟩ (by show cells + 0 + 0 ≤ 80; omega) (by show slots + 0 + 0 ≤ 320; omega)
    refine ⟨_, _, _, _, XX18, hk18, hN18, fun fs hr => pre15 _ ?_⟩
    refine XS.ifYes X14.here hx rfl (pc0 := 179) (pc' := 186) rfl (hb hy at_179) rfl ((if0 _ _).trans (teq hf15).1) (by decide) (by decide) ?_
    refine XS.iconst X14.here hx rfl (hb hy at_186) ?_
    refine XS.istore X14.here hx rfl (hb hy at_187) rfl (l' := (LV p1 p2 q3 q4 p5 q6 q7 p8 p9 p10 a11 a12 a13 (iv o1) (iv o0) uu)) rfl ?_
    refine xiload X14 hx hy at_189 rfl ?_
    refine XS.ifYes X14.here hx rfl (pc0 := 191) (pc' := 199) rfl (hb hy at_191) rfl ((if0 _ _).trans (teq (rfl : o0 = o0)).1) (by decide) (by decide) ?_
    exact sg18 fs hr
  · obtain ⟨_, T22, L22, X22, hQ22, st22⟩ := own_cV X14 hx hZ ho hml (cw13 hw) (rm43_0 l Z a0 hw a13 a19 p20 a21 a16 h0 n0 OL0 pr2 pr1 pr9 pr10 pr11 pr12 pr3) ec14 pr2 196 (LV p1 p2 q3 q4 p5 q6 q7 p8 p9 p10 a11 a12 a13 (iv o1) (iv o1) uu) [] [] 0 rfl (hb hy at_196) ⟨by decide, by decide, by show cells + 0 + 0 ≤ 80; omega, by show slots + 0 + 0 ≤ 320; omega⟩
    obtain ⟨rfl, Nq22, K22, u22_0, u22_1, u22_2, u22_3, u22_4⟩ := hQ22
    have OL22 := OL0.keep K22 (allS pr9 all0)
    have N22 := Fr.app N14 Nq22
    have fc24 := (pr2.keep K22)
    have fc25 := (pr4.keep K22 (ninS pr13 nin0))
    have fc26 := (pr7.keep K22)
    obtain ⟨_, _, _, _, XX23, hk23, hN23, sg23⟩ := sg199_1 l Z a0 hw p1 p2 q3 q4 p5 q6 q7 p8 p9 p10 a11 a12 a13 a16 k17 T22.heap n0 OL22 u22_0 fc24 u22_4 fc25 pr5 pr6 fc26 pr8 ⟨hZ, hx, hy, hml, ho, hnm, hret, X22, rfl, N22⟩ (by show cells + 0 + 0 + 0 ≤ 80; omega) (by show slots + 0 + 0 + 0 ≤ 320; omega)
    refine ⟨_, _, _, _, XX23, hk23, hN23, fun fs hr => pre15 _ ?_⟩
    refine XS.ifNo X14.here hx rfl (hb hy at_179) rfl ((if0 _ _).trans (feq hf15).1) ?_
    refine XS.iconst X14.here hx rfl (hb hy at_182) ?_
    refine XS.goto X14.here hx rfl (pc0 := 183) (pc' := 187) rfl (hb hy at_183) (by decide) (by decide) ?_
    refine XS.istore X14.here hx rfl (hb hy at_187) rfl (l' := (LV p1 p2 q3 q4 p5 q6 q7 p8 p9 p10 a11 a12 a13 (iv o1) (iv o1) uu)) rfl ?_
    refine xiload X14 hx hy at_189 rfl ?_
    refine XS.ifNo X14.here hx rfl (hb hy at_191) rfl ((if0 _ _).trans (feq (by decide : ¬ (o1 = o0))).1) ?_
    refine xaload X14 hx hy at_194 rfl rfl ?_
    refine st22 _ ?_
    exact sg23 fs hr
theorem d40_0 : DC cb40 0 (.aload_n 0) 1 := by decide +kernel
theorem d40_1 : DC cb40 1 (.getfield 28) 3 := by decide +kernel
theorem d40_4 : DC cb40 4 (.new 73) 3 := by decide +kernel
theorem d40_7 : DC cb40 7 (.dup) 1 := by decide +kernel
theorem d40_8 : DC cb40 8 (.iload_n 1) 1 := by decide +kernel
theorem d40_9 : DC cb40 9 (.aload_n 2) 1 := by decide +kernel
theorem d40_10 : DC cb40 10 (.iload_n 3) 1 := by decide +kernel
theorem d40_11 : DC cb40 11 (.invokespecial 75) 3 := by decide +kernel
theorem d41_0 : DC cb41 0 (.aload_n 0) 1 := by decide +kernel
theorem d41_1 : DC cb41 1 (.invokespecial 1) 3 := by decide +kernel
theorem d42_0 : DC cb42 0 (.aload_n 0) 1 := by decide +kernel
theorem d42_1 : DC cb42 1 (.invokespecial 1) 3 := by decide +kernel
theorem d42_4 : DC cb42 4 (.return_) 1 := by decide +kernel
theorem ef_42_14 (m : MethodId) (x0 : Addr) : entryFrame m #[(.ref x0)] 1 = mkF m 0 #[.val (.ref x0)] [] := by first | (simp [entryFrame, mkF, argsToLocals, Value.category]; done) | rfl
theorem pn_8 : plainName "java/lang/Record" = true := by first | (simp [plainName, overriddenIn]; done) | decide +kernel
theorem rm42_0 (l : Launch) (Z : State) (a0 : Array Value) (hw : HW a0 Z) (a1 : Addr) (h0 : Heap) (n0 : Nat) (OL0 : Old Z n0 h0)  :
    MF l Z mn42 jdk_30_method_1_code 1 none ⟨1, 0, 0, 12⟩ #[(.ref a1)] h0 (QR n0 h0 (none)) := by
  refine own_start (plainFor_of_name pn_8) (fun m => (ef_42_14 m a1)) ?_
  intro p e s m below meth c s₁ hZ hx hy hml ho hnm hret X0 e0
  have N0 := Fr.nil n0
  obtain ⟨T2, X2, e2, st2⟩ := initO X0 hx hZ ho (wd299 hw) (wd23 hw) (wd24 hw) e0 (g := (mkF m 1 #[rv a1] [(.ref a1)])) rfl (by rw [hml]; rfl) rfl (hb hy d42_1) (by decide) (W := 0) (by show 2 * 0 + _ ≤ _; exact Nat.le_of_eq rfl) (by decide)
  refine ⟨none, _, _, _, _, _, X2, e2, by decide, fun _ => rfl, fun fs hr => ?_, ?_⟩
  · refine xaloadN X0 hx hy d42_0 rfl rfl ?_
    refine st2 _ ?_
    show SS p e below T2 m 4 #[rv a1] [] _
    exact X2.returnOut hx hret (hb hy d42_4) hr
  · exact ⟨rfl, N0, rfl⟩
theorem cw14 {a0 Z} (hw : HW a0 Z) : CN a0 Z s46 1 mn42 0 (.code mn42 jdk_30_method_1_code 1 none) :=
  ⟨rfl, wx hw 294 rfl, wx hw 295 rfl, wx hw 298 rfl, wx hw 297 rfl, by decide, _, _, pd_7, rfl⟩
theorem d41_4 : DC cb41 4 (.aload_n 0) 1 := by decide +kernel
theorem d41_5 : DC cb41 5 (.iload_n 1) 1 := by decide +kernel
theorem d41_6 : DC cb41 6 (.putfield 7) 3 := by decide +kernel
theorem d41_9 : DC cb41 9 (.aload_n 0) 1 := by decide +kernel
theorem d41_10 : DC cb41 10 (.aload_n 2) 1 := by decide +kernel
theorem d41_11 : DC cb41 11 (.putfield 13) 3 := by decide +kernel
theorem d41_14 : DC cb41 14 (.aload_n 0) 1 := by decide +kernel
theorem d41_15 : DC cb41 15 (.iload_n 3) 1 := by decide +kernel
theorem d41_16 : DC cb41 16 (.putfield 17) 3 := by decide +kernel
theorem d41_19 : DC cb41 19 (.return_) 1 := by decide +kernel
theorem ef_41_15 (m : MethodId) (x0 : Addr) (x1 : Int32) (x2 : Addr) (x3 : Int32) : entryFrame m #[(.ref x0), (.int x1), (.ref x2), (.int x3)] 4 = mkF m 0 #[.val (.ref x0), .val (.int x1), .val (.ref x2), .val (.int x3)] [] := by first | (simp [entryFrame, mkF, argsToLocals, Value.category]; done) | rfl
theorem pn_9 : plainName "shadowsift/iptables/Condition$InterfaceTest" = true := by first | (simp [plainName, overriddenIn]; done) | decide +kernel
theorem rm41_0 (l : Launch) (Z : State) (a0 : Array Value) (hw : HW a0 Z) (a1 : Addr) (p2 : Int32) (a3 : Addr) (p4 : Int32) (h0 : Heap) (n0 : Nat) (OL0 : Old Z n0 h0) (pr1 : Exa Z h0 a1 s46) (pr2 : Fld Z h0 a1 s46 "field" "I" vi0) (pr3 : n0 ≤ a1) (pr4 : Fld Z h0 a1 s46 "pattern" s4 .null) (pr5 : Fld Z h0 a1 s46 "negated" "Z" vi0) :
    MF l Z mn41 prog_67_method_1_code 4 none ⟨2, 0, 0, 24⟩ #[(.ref a1), (.int p2), (.ref a3), (.int p4)] h0 (fun v h L => v = none ∧ Fr n0 L ∧ Keep h0 h [a1] ∧ Fld Z h a1 s46 "field" "I" (.int p2) ∧ Fld Z h a1 s46 "pattern" s4 (.ref a3) ∧ Fld Z h a1 s46 "negated" "Z" (.int (nar .boolean p4))) := by
  refine own_start (plainFor_of_name pn_9) (fun m => (ef_41_15 m a1 p2 a3 p4)) ?_
  intro p e s m below meth c s₁ hZ hx hy hml ho hnm hret X0 e0
  have N0 := Fr.nil n0
  obtain ⟨_, T5, L5, X5, hQ5, st5⟩ := own_cN X0 hx hZ ho hml (cw14 hw) (rm42_0 l Z a0 hw a1 h0 n0 OL0 ) e0 a1 1 #[rv a1, iv p2, rv a3, iv p4] [] [] 0 rfl (hb hy d41_1) (by decide)
  obtain ⟨rfl, Nq5, ec5⟩ := hQ5
  have N5 := Fr.app N0 Nq5
  obtain ⟨T6, h6, X6, e6, W6, st6⟩ := putF X5 hx hZ ho (host := "") (Or.inl (wd300 hw)) Via.refl ec5 pr2 pr1 (Or.inr ⟨(wd301 hw), rfl, hnm⟩) (wd289 hw) (ty := .int) (by decide) rfl rfl (g := (mkF m 6 #[rv a1, iv p2, rv a3, iv p4] [(.int p2), (.ref a1)])) rfl rfl (hb hy d41_6)
  have Fw6 := pr2.same W6
  have KK6 : Keep h0 h6 [a1] := (Keep.refl h0 [a1]).wr W6 (Or.inl (List.mem_of_getElem? (i := 0) rfl))
  have N6 := Fr.snoc X6 N5 pr3
  have fc7 := (pr1.wr W6)
  have fc8 := (pr4.other W6 (Or.inr (slot_ne (Or.inr (wd303 hw)) (Or.inr (wd301 hw)) (by decide) (t := (.object s22)) (t' := .int) (by decide) (by decide))))
  obtain ⟨T9, h9, X9, e9, W9, st9⟩ := putF X6 hx hZ ho (host := "") (Or.inl (wd302 hw)) Via.refl e6 fc8 fc7 (Or.inr ⟨(wd303 hw), rfl, hnm⟩) (wd289 hw) (ty := (.object s22)) (by decide) rfl rfl (g := (mkF m 11 #[rv a1, iv p2, rv a3, iv p4] [(.ref a3), (.ref a1)])) rfl rfl (hb hy d41_11)
  have Fw9 := fc8.same W9
  have KK9 : Keep h0 h9 [a1] := KK6.wr W9 (Or.inl (List.mem_of_getElem? (i := 0) rfl))
  have N9 := Fr.snoc X9 N6 pr3
  have fc10 := (fc7.wr W9)
  have fc11 := ((pr5.other W6 (Or.inr (slot_ne (Or.inr (wd305 hw)) (Or.inr (wd301 hw)) (by decide) (t := .boolean) (t' := .int) (by decide) (by decide)))).other W9 (Or.inr (slot_ne (Or.inr (wd305 hw)) (Or.inr (wd303 hw)) (by decide) (t := .boolean) (t' := (.object s22)) (by decide) (by decide))))
  obtain ⟨T12, h12, X12, e12, W12, st12⟩ := putFN X9 hx hZ ho (wd304 hw) Via.refl e9 fc11 fc10 (Or.inr ⟨(wd305 hw), rfl, hnm⟩) (wd289 hw) (ty := .boolean) (v' := (.int (nar .boolean p4))) (by decide) rfl (fits_nar_bool _) (g := (mkF m 16 #[rv a1, iv p2, rv a3, iv p4] [(.int p4), (.ref a1)])) rfl rfl (hb hy d41_16)
  have Fw12 := fc11.same W12
  have KK12 : Keep h0 h12 [a1] := KK9.wr W12 (Or.inl (List.mem_of_getElem? (i := 0) rfl))
  have N12 := Fr.snoc X12 N9 pr3
  have fc13 := ((Fw6.other W9 (Or.inr (slot_ne (Or.inr (wd301 hw)) (Or.inr (wd303 hw)) (by decide) (t := .int) (t' := (.object s22)) (by decide) (by decide)))).other W12 (Or.inr (slot_ne (Or.inr (wd301 hw)) (Or.inr (wd305 hw)) (by decide) (t := .int) (t' := .boolean) (by decide) (by decide))))
  have fc14 := (Fw9.other W12 (Or.inr (slot_ne (Or.inr (wd303 hw)) (Or.inr (wd305 hw)) (by decide) (t := (.object s22)) (t' := .boolean) (by decide) (by decide))))
  refine ⟨none, _, _, _, _, _, X12, e12, by decide, fun _ => rfl, fun fs hr => ?_, ?_⟩
  · refine xaloadN X0 hx hy d41_0 rfl rfl ?_
    refine st5 _ ?_
    refine xaloadN X5 hx hy d41_4 rfl rfl ?_
    refine xiloadN X5 hx hy d41_5 rfl ?_
    refine st6 _ ?_
    refine xaloadN X6 hx hy d41_9 rfl rfl ?_
    refine xaloadN X6 hx hy d41_10 rfl rfl ?_
    refine st9 _ ?_
    refine xaloadN X9 hx hy d41_14 rfl rfl ?_
    refine xiloadN X9 hx hy d41_15 rfl ?_
    refine st12 _ ?_
    show SS p e below T12 m 19 #[rv a1, iv p2, rv a3, iv p4] [] _
    exact X12.returnOut hx hret (hb hy d41_19) hr
  · exact ⟨rfl, N12, KK12, fc13, fc14, Fw12⟩
theorem pd_10 : parseMethodDescriptor "(ILjava/lang/String;Z)V" = some ⟨[.int, (.object "java/lang/String"), .boolean], none⟩ := by decide +kernel
theorem cw15 {a0 Z} (hw : HW a0 Z) : CR a0 Z s45 75 mn41 3 (.code mn41 prog_67_method_1_code 4 none) :=
  ⟨rfl, wx hw 291 rfl, wx hw 292 rfl, wx hw 293 rfl, wx hw 290 rfl, by decide, _, _, pd_10, rfl⟩
theorem d40_14 : DC cb40 14 (.invokeinterface 78 2) 5 := by decide +kernel
theorem d31_0 : DC cb31 0 (.aload_n 0) 1 := by decide +kernel
theorem d31_1 : DC cb31 1 (.dup) 1 := by decide +kernel
theorem d31_2 : DC cb31 2 (.getfield 63) 3 := by decide +kernel
theorem d31_5 : DC cb31 5 (.iconst 1) 1 := by decide +kernel
theorem d31_6 : DC cb31 6 (.iadd) 1 := by decide +kernel
theorem d31_7 : DC cb31 7 (.putfield 63) 3 := by decide +kernel
theorem d31_10 : DC cb31 10 (.aload_n 0) 1 := by decide +kernel
theorem d31_11 : DC cb31 11 (.aload_n 1) 1 := by decide +kernel
theorem d31_12 : DC cb31 12 (.aload_n 0) 1 := by decide +kernel
theorem d31_13 : DC cb31 13 (.getfield 9) 3 := by decide +kernel
theorem d31_16 : DC cb31 16 (.aload_n 0) 1 := by decide +kernel
theorem d31_17 : DC cb31 17 (.getfield 48) 3 := by decide +kernel
theorem d31_20 : DC cb31 20 (.invokevirtual 131) 3 := by decide +kernel
theorem d32_0 : DC cb32 0 (.iload_n 3) 1 := by decide +kernel
theorem d32_1 : DC cb32 1 (.aload_n 2) 1 := by decide +kernel
theorem d32_2 : DC cb32 2 (.arraylength) 1 := by decide +kernel
theorem d32_3 : DC cb32 3 (.if_icmp .ne 8) 3 := by decide +kernel
theorem d32_6 : DC cb32 6 (.aload_n 0) 1 := by decide +kernel
theorem d32_7 : DC cb32 7 (.invokevirtual 129) 3 := by decide +kernel
theorem d33_0 : DC cb33 0 (.aload_n 0) 1 := by decide +kernel
theorem d33_1 : DC cb33 1 (.aload_n 0) 1 := by decide +kernel
theorem d33_2 : DC cb33 2 (.getfield 48) 3 := by decide +kernel
theorem d33_5 : DC cb33 5 (.iconst 1) 1 := by decide +kernel
theorem d33_6 : DC cb33 6 (.iadd) 1 := by decide +kernel
theorem d33_7 : DC cb33 7 (.invokevirtual 69) 3 := by decide +kernel
theorem d34_0 : DC cb34 0 (.aload_n 0) 1 := by decide +kernel
theorem d34_1 : DC cb34 1 (.getfield 9) 3 := by decide +kernel
theorem d34_4 : DC cb34 4 (.arraylength) 1 := by decide +kernel
theorem d34_5 : DC cb34 5 (.istore_n 2) 1 := by decide +kernel
theorem d34_6 : DC cb34 6 (.iload_n 2) 1 := by decide +kernel
theorem d34_7 : DC cb34 7 (.ifCond .gt 13) 3 := by decide +kernel
theorem d34_10 : DC cb34 10 (.aload_n 0) 1 := by decide +kernel
theorem d34_11 : DC cb34 11 (.getfield 9) 3 := by decide +kernel
theorem d34_14 : DC cb34 14 (.getstatic 39) 3 := by decide +kernel
theorem d34_17 : DC cb34 17 (.if_acmp .eq 28) 3 := by decide +kernel
theorem d34_45 : DC cb34 45 (.aload_n 0) 1 := by decide +kernel
theorem d34_46 : DC cb34 46 (.bipush 10) 2 := by decide +kernel
theorem d34_48 : DC cb34 48 (.iload_n 1) 1 := by decide +kernel
theorem d34_49 : DC cb34 49 (.invokestatic 79) 3 := by decide +kernel
theorem d35_0 : DC cb35 0 (.iload_n 0) 1 := by decide +kernel
theorem d35_1 : DC cb35 1 (.iload_n 1) 1 := by decide +kernel
theorem d35_2 : DC cb35 2 (.if_icmp .lt 7) 3 := by decide +kernel
theorem d35_5 : DC cb35 5 (.iload_n 0) 1 := by decide +kernel
theorem d35_6 : DC cb35 6 (.goto 4) 3 := by decide +kernel
theorem d35_10 : DC cb35 10 (.ireturn) 1 := by decide +kernel
theorem ef_35_16 (m : MethodId)  : entryFrame m #[(.int (10 : Int32)), (.int (1 : Int32))] 2 = mkF m 0 #[.val (.int (10 : Int32)), .val (.int (1 : Int32))] [] := by first | (simp [entryFrame, mkF, argsToLocals, Value.category]; done) | rfl
theorem rm35_0 (l : Launch) (Z : State) (a0 : Array Value) (hw : HW a0 Z)  (h0 : Heap) (n0 : Nat) (OL0 : Old Z n0 h0)  :
    MF l Z mn35 jdk_29_method_65_code 2 (some .int) ⟨0, 0, 0, 0⟩ #[(.int (10 : Int32)), vi1] h0 (QR n0 h0 (some (.int (10 : Int32)))) := by
  refine own_start (Jvm.Free.JP.mathPlain rfl (by decide +kernel)) (fun m => (ef_35_16 m )) ?_
  intro p e s m below meth c s₁ hZ hx hy hml ho hnm hret X0 e0
  have N0 := Fr.nil n0
  refine ⟨some (.int (10 : Int32)), _, _, _, _, _, X0, e0, by decide, nofun, fun fs hr => ?_, ?_⟩
  · refine xiloadN X0 hx hy d35_0 rfl ?_
    refine xiloadN X0 hx hy d35_1 rfl ?_
    refine XS.icmpNo X0.here hx rfl (hb hy d35_2) rfl (flt (by decide : ¬ ((10 : Int32) < o1))).1 ?_
    refine xiloadN X0 hx hy d35_5 rfl ?_
    refine XS.goto X0.here hx rfl (pc0 := 6) (pc' := 10) rfl (hb hy d35_6) (by decide) (by decide) ?_
    show SS p e below s₁ m 10 #[iv (10 : Int32), iv o1] [(.int (10 : Int32))] _
    exact retI X0 hx hret (hb hy d35_10) hr
  · exact ⟨rfl, N0, rfl⟩
theorem pd_11 : parseMethodDescriptor "(II)I" = some ⟨[.int, .int], some .int⟩ := by decide +kernel
theorem cw16 {a0 Z} (hw : HW a0 Z) : CS a0 Z s27 79 mn35 2 (.code mn35 jdk_29_method_65_code 2 (some .int)) :=
  ⟨wx hw 251 rfl, wx hw 252 rfl, wx hw 253 rfl, wx hw 166 rfl, by decide, _, _, pd_11, rfl⟩
theorem d34_52 : DC cb34 52 (.anewarray 7) 3 := by decide +kernel
theorem d34_55 : DC cb34 55 (.dup_x1) 1 := by decide +kernel
theorem d34_56 : DC cb34 56 (.putfield 9) 3 := by decide +kernel
theorem d34_59 : DC cb34 59 (.areturn) 1 := by decide +kernel
theorem ef_34_17 (m : MethodId) (x0 : Addr) : entryFrame m #[(.ref x0), (.int (1 : Int32))] 4 = mkF m 0 #[.val (.ref x0), .val (.int (1 : Int32)), .unset, .unset] [] := by first | (simp [entryFrame, mkF, argsToLocals, Value.category]; done) | rfl
theorem rm34_0 (l : Launch) (Z : State) (a0 : Array Value) (hw : HW a0 Z) (a1 w2 : Addr) (k4 : ClassId) (h0 : Heap) (n0 : Nat) (OL0 : Old Z n0 h0) (pr1 : Fld Z h0 a1 s27 s12 s7 (.ref w2)) (pr2 : Arv Z Z.heap w2 k4 (.object s20) o0 [] .null) (pr3 : Sta Z Z.heap s27 s1 s7 (.ref w2)) (pr4 : Exa Z h0 a1 s27) (pr5 : n0 ≤ a1) (pr6 : Fld Z h0 a1 s26 s36 "I" vi1) (pr7 : Fld Z h0 a1 s27 "size" "I" vi0) :
    MF l Z mn34 jdk_38_method_6_code 4 (some (.array (.object s20))) ⟨1, 1, 10, 14⟩ #[(.ref a1), vi1] h0 (fun v h L => ∃ b9 : Addr, ∃ k9 : ClassId, v = some (.ref b9) ∧ Fr n0 L ∧ Keep h0 h [a1] ∧ h0.size ≤ b9 ∧ Fld Z h a1 s27 s12 s7 (.ref b9) ∧ Fld Z h a1 s26 s36 "I" vi1 ∧ Fld Z h a1 s27 "size" "I" vi0 ∧ Arv Z h b9 k9 (.object s20) (10 : Int32) [.null, .null, .null, .null, .null, .null, .null, .null, .null, .null] .null ∧ Ovr Z k9 s20 ∧ Exa Z h b9 s7) := by
  refine own_start (plainFor_of_name pn_6) (fun m => (ef_34_17 m a1)) ?_
  intro p e s m below meth c s₁ hZ hx hy hml ho hnm hret X0 e0
  have N0 := Fr.nil n0
  obtain ⟨T3, X3, e3, st3⟩ := gF X0 hx hZ ho (wd92 hw) Via.refl e0 pr1 1 #[rv a1, iv o1, uu, uu] [] (hb hy d34_1)
  obtain ⟨cl5, Ar5, -, Sz5, Nn5, -, -⟩ := id (pr2.ext OL0.2)
  obtain ⟨T6, X6, e6, st6⟩ := gF X3 hx hZ ho (wd92 hw) Via.refl e3 pr1 11 #[rv a1, iv o1, iv o0, uu] [] (hb hy d34_11)
  obtain ⟨T7, X7, e7, st7⟩ := getS2 X6 hx hZ ho (host := "") (Or.inl (wd91 hw)) Via.refl e6 (pr3.ext OL0.2) (g := (mkF m 14 #[rv a1, iv o1, iv o0, uu] [(.ref w2)])) rfl (hb hy d34_14)
  obtain ⟨_, T8, L8, X8, hQ8, st8⟩ := own_cS X7 hx hZ ho hml (cw16 hw) (rm35_0 l Z a0 hw  h0 n0 OL0 ) e7 49 #[rv a1, iv o1, iv o0, uu] [(.int (10 : Int32)), vi1] [(.ref a1)] 1 rfl (hb hy d34_49) (by decide)
  obtain ⟨rfl, Nq8, ec8⟩ := hQ8
  have N8 := Fr.app N0 Nq8
  obtain ⟨T9, h9, k9, X9, e9, E9, A9, AE9, O9, st9⟩ := newRE (ad := s7) X8 hx hZ ho (wd254 hw) (wd255 hw) ec8 (g := (mkF m 52 #[rv a1, iv o1, iv o0, uu] [(.int (10 : Int32)), (.ref a1)])) rfl (hb hy d34_52) rfl (by decide) (cap := 10) (by decide) (by decide) (by decide) (by decide) (by decide)
  obtain ⟨b9, g9⟩ : ∃ z, z = h0.size := ⟨_, rfl⟩
  rw [← g9] at A9 AE9 st9
  have V9 : Arv Z h9 b9 k9 (.object s20) (10 : Int32) [.null, .null, .null, .null, .null, .null, .null, .null, .null, .null] .null := (Arv.new A9 (by decide)).pad (pad_rep [] .null 10)
  have sz_b9 : h0.size ≤ b9 := (Nat.le_trans (Keep.refl h0 [a1]).1 (Nat.le_of_eq g9.symm))
  have KK9 : Keep h0 h9 [a1] := (Keep.refl h0 [a1]).ext E9
  have fc10 := (pr4.ext E9)
  have fc11 := (pr1.ext E9)
  obtain ⟨T12, h12, X12, e12, W12, st12⟩ := putF X9 hx hZ ho (host := "") (Or.inl (wd92 hw)) Via.refl e9 fc11 fc10 (Or.inl (wd93 hw)) (wd71 hw) (ty := (.array (.object s20))) (by decide) rfl rfl (g := (mkF m 56 #[rv a1, iv o1, iv o0, uu] [(.ref b9), (.ref a1), (.ref b9)])) rfl rfl (hb hy d34_56)
  have Fw12 := fc11.same W12
  have KK12 : Keep h0 h12 [a1] := KK9.wr W12 (Or.inl (List.mem_of_getElem? (i := 0) rfl))
  have N12 := Fr.snoc X12 N8 pr5
  have fc13 := ((pr6.ext E9).other W12 (Or.inr (slot_ne (Or.inl (wd90 hw)) (Or.inl (wd93 hw)) (by decide) (t := .int) (t' := (.array (.object s20))) (by decide) (by decide))))
  have fc14 := ((pr7.ext E9).other W12 (Or.inr (slot_ne (Or.inl (wd235 hw)) (Or.inl (wd93 hw)) (by decide) (t := .int) (t' := (.array (.object s20))) (by decide) (by decide))))
  have nz15 := nl pr7.lt sz_b9
  have fc16 := (V9.other W12 (Ne.symm nz15))
  have fc17 := (AE9.wr W12)
  refine ⟨some (.ref b9), _, _, _, _, _, X12, e12, by decide, nofun, fun fs hr => ?_, ?_⟩
  · refine xaloadN X0 hx hy d34_0 rfl rfl ?_
    refine st3 _ ?_
    refine X3.arraylength hx (by rw [e3]; exact Ar5.1) (State.isArrayOf_alike hZ.alike Ar5.2.1) (g := (mkF m 4 #[rv a1, iv o1, uu, uu] [(.ref w2)])) rfl rfl (hb hy d34_4) _ ?_
    rw [len_of Sz5 Nn5]
    refine XS.istoreN X3.here hx rfl (hb hy d34_5) rfl (l' := #[rv a1, iv o1, iv o0, uu]) rfl ?_
    refine xiloadN X3 hx hy d34_6 rfl ?_
    refine XS.ifNo X3.here hx rfl (hb hy d34_7) rfl ((if0 _ _).trans (flt (by decide : ¬ (o0 < o0))).2.2.1) ?_
    refine xaloadN X3 hx hy d34_10 rfl rfl ?_
    refine st6 _ ?_
    refine st7 _ ?_
    refine Jvm.RoadKit.acmp (g := (mkF m 17 #[rv a1, iv o1, iv o0, uu] [(.ref w2), (.ref w2)])) X7 hx rfl rfl rfl (pc0 := 17) (pc' := 45) (same := true) rfl (hb hy d34_17) rfl (decide_eq_true rfl) (by decide) (by decide) ?_
    refine xaloadN X7 hx hy d34_45 rfl rfl ?_
    refine XS.bipush X7.here hx rfl (hb hy d34_46) ?_
    refine xiloadN X7 hx hy d34_48 rfl ?_
    refine st8 _ ?_
    refine st9 _ ?_
    refine XS.dupX1 X9.here hx rfl (hb hy d34_55) rfl rfl rfl ?_
    refine st12 _ ?_
    show SS p e below T12 m 59 #[rv a1, iv o1, iv o0, uu] [(.ref b9)] _
    exact own_retR X12 hx hret rfl rfl rfl (hb hy d34_59) hr
  · exact ⟨b9, k9, rfl, N12, KK12, sz_b9, Fw12, fc13, fc14, fc16, O9, fc17⟩
theorem pd_12 : parseMethodDescriptor "(I)[Ljava/lang/Object;" = some ⟨[.int], some (.array (.object "java/lang/Object"))⟩ := by decide +kernel
theorem cw17 {a0 Z} (hw : HW a0 Z) : CP a0 Z s27 69 mn34 1 (.code mn34 jdk_38_method_6_code 4 (some (.array (.object s20)))) :=
  ⟨wx hw 246 rfl, wx hw 247 rfl, wx hw 249 rfl, fun _ hZ => Cond.privateMethod_at (mvP hZ (wd248 hw) (args := #[])), wx hw 250 rfl, wx hw 72 rfl, by decide, _, _, pd_12, rfl⟩
theorem d33_10 : DC cb33 10 (.areturn) 1 := by decide +kernel
theorem ef_33_18 (m : MethodId) (x0 : Addr) : entryFrame m #[(.ref x0)] 1 = mkF m 0 #[.val (.ref x0)] [] := by first | (simp [entryFrame, mkF, argsToLocals, Value.category]; done) | rfl
theorem rm33_0 (l : Launch) (Z : State) (a0 : Array Value) (hw : HW a0 Z) (a1 w3 : Addr) (k4 : ClassId) (h0 : Heap) (n0 : Nat) (OL0 : Old Z n0 h0) (pr1 : Fld Z h0 a1 s27 "size" "I" vi0) (pr2 : Fld Z h0 a1 s27 s12 s7 (.ref w3)) (pr3 : Arv Z Z.heap w3 k4 (.object s20) o0 [] .null) (pr4 : Sta Z Z.heap s27 s1 s7 (.ref w3)) (pr5 : Exa Z h0 a1 s27) (pr6 : n0 ≤ a1) (pr7 : Fld Z h0 a1 s26 s36 "I" vi1) :
    MF l Z mn33 jdk_38_method_7_code 1 (some (.array (.object s20))) ⟨2, 1, 10, 29⟩ #[(.ref a1)] h0 (fun v h L => ∃ b5_0 : Addr, ∃ kx5_0 : ClassId, v = some (.ref b5_0) ∧ Fr n0 L ∧ Keep h0 h [a1] ∧ h0.size ≤ b5_0 ∧ Fld Z h a1 s27 "size" "I" vi0 ∧ Fld Z h a1 s27 s12 s7 (.ref b5_0) ∧ Fld Z h a1 s26 s36 "I" vi1 ∧ Arv Z h b5_0 kx5_0 (.object s20) (10 : Int32) [.null, .null, .null, .null, .null, .null, .null, .null, .null, .null] .null ∧ Ovr Z kx5_0 s20 ∧ Exa Z h b5_0 s7) := by
  refine own_start (plainFor_of_name pn_6) (fun m => (ef_33_18 m a1)) ?_
  intro p e s m below meth c s₁ hZ hx hy hml ho hnm hret X0 e0
  have N0 := Fr.nil n0
  obtain ⟨T2, X2, e2, st2⟩ := gF X0 hx hZ ho (wd234 hw) Via.refl e0 pr1 2 #[rv a1] [(.ref a1)] (hb hy d33_2)
  obtain ⟨_, T5, L5, X5, hQ5, st5⟩ := own_cP X2 hx hZ ho hml (cw17 hw) (rm34_0 l Z a0 hw a1 w3 k4 h0 n0 OL0 pr2 pr3 pr4 pr5 pr6 pr7 pr1) e2 pr5 7 #[rv a1] [vi1] [] 0 rfl (hb hy d33_7) (by decide)
  obtain ⟨b5_0, kx5_0, rfl, Nq5, K5, u5_0, u5_1, u5_2, u5_3, u5_4, u5_5, u5_6⟩ := hQ5
  have KK5 : Keep h0 T5.heap [a1] := (Keep.refl h0 [a1]).trans K5 (allS (Or.inl (List.mem_of_getElem? (i := 0) rfl)) all0)
  have sz_b5_0 : h0.size ≤ b5_0 := Nat.le_trans (Keep.refl h0 [a1]).1 u5_0
  have N5 := Fr.app N0 Nq5
  refine ⟨some (.ref b5_0), _, _, _, _, _, X5, rfl, by decide, nofun, fun fs hr => ?_, ?_⟩
  · refine xaloadN X0 hx hy d33_0 rfl rfl ?_
    refine xaloadN X0 hx hy d33_1 rfl rfl ?_
    refine st2 _ ?_
    refine XS.iconst X2.here hx rfl (hb hy d33_5) ?_
    refine XS.iadd X2.here hx rfl (hb hy d33_6) rfl ?_
    refine st5 _ ?_
    show SS p e below T5 m 10 #[rv a1] [(.ref b5_0)] _
    exact own_retR X5 hx hret rfl rfl rfl (hb hy d33_10) hr
  · exact ⟨b5_0, kx5_0, rfl, N5, KK5, sz_b5_0, u5_3, u5_1, u5_2, u5_4, u5_5, u5_6⟩
theorem pd_13 : parseMethodDescriptor "()[Ljava/lang/Object;" = some ⟨[], some (.array (.object "java/lang/Object"))⟩ := by decide +kernel
theorem cw18 {a0 Z} (hw : HW a0 Z) : CP a0 Z s27 129 mn33 0 (.code mn33 jdk_38_method_7_code 1 (some (.array (.object s20)))) :=
  ⟨wx hw 241 rfl, wx hw 242 rfl, wx hw 244 rfl, fun _ hZ => Cond.privateMethod_at (mvP hZ (wd243 hw) (args := #[])), wx hw 245 rfl, wx hw 72 rfl, by decide, _, _, pd_13, rfl⟩
theorem d32_10 : DC cb32 10 (.astore_n 2) 1 := by decide +kernel
theorem d32_11 : DC cb32 11 (.aload_n 2) 1 := by decide +kernel
theorem d32_12 : DC cb32 12 (.iload_n 3) 1 := by decide +kernel
theorem d32_13 : DC cb32 13 (.aload_n 1) 1 := by decide +kernel
theorem d32_14 : DC cb32 14 (.aastore) 1 := by decide +kernel
theorem d32_15 : DC cb32 15 (.aload_n 0) 1 := by decide +kernel
theorem d32_16 : DC cb32 16 (.iload_n 3) 1 := by decide +kernel
theorem d32_17 : DC cb32 17 (.iconst 1) 1 := by decide +kernel
theorem d32_18 : DC cb32 18 (.iadd) 1 := by decide +kernel
theorem d32_19 : DC cb32 19 (.putfield 48) 3 := by decide +kernel
theorem d32_22 : DC cb32 22 (.return_) 1 := by decide +kernel
theorem ef_32_19 (m : MethodId) (x0 : Addr) (x1 : Addr) (x2 : Addr) : entryFrame m #[(.ref x0), (.ref x1), (.ref x2), (.int (0 : Int32))] 4 = mkF m 0 #[.val (.ref x0), .val (.ref x1), .val (.ref x2), .val (.int (0 : Int32))] [] := by first | (simp [entryFrame, mkF, argsToLocals, Value.category]; done) | rfl
theorem rm32_0 (l : Launch) (Z : State) (a0 : Array Value) (hw : HW a0 Z) (a1 a2 w3 : Addr) (k4 : ClassId) (h0 : Heap) (n0 : Nat) (OL0 : Old Z n0 h0) (pr1 : Arv Z Z.heap w3 k4 (.object s20) o0 [] .null) (pr2 : Fld Z h0 a1 s27 "size" "I" vi0) (pr3 : Fld Z h0 a1 s27 s12 s7 (.ref w3)) (pr4 : Sta Z Z.heap s27 s1 s7 (.ref w3)) (pr5 : Exa Z h0 a1 s27) (pr6 : n0 ≤ a1) (pr7 : Fld Z h0 a1 s26 s36 "I" vi1) (pr8 : Exa Z h0 a2 s46) :
    MF l Z mn32 jdk_38_method_24_code 4 none ⟨3, 1, 10, 41⟩ #[(.ref a1), (.ref a2), (.ref w3), vi0] h0 (fun v h L => ∃ b6_0 : Addr, ∃ kx6_0 : ClassId, v = none ∧ Fr n0 L ∧ Keep h0 h [a1] ∧ h0.size ≤ b6_0 ∧ Fld Z h a1 s27 "size" "I" vi1 ∧ Fld Z h a1 s27 s12 s7 (.ref b6_0) ∧ Fld Z h a1 s26 s36 "I" vi1 ∧ Arv Z h b6_0 kx6_0 (.object s20) (10 : Int32) [(.ref a2), .null, .null, .null, .null, .null, .null, .null, .null, .null] .null ∧ Ovr Z kx6_0 s20 ∧ Exa Z h b6_0 s7) := by
  refine own_start (plainFor_of_name pn_6) (fun m => (ef_32_19 m a1 a2 w3)) ?_
  intro p e s m below meth c s₁ hZ hx hy hml ho hnm hret X0 e0
  have N0 := Fr.nil n0
  obtain ⟨cl5, Ar5, -, Sz5, Nn5, -, -⟩ := id (pr1.ext OL0.2)
  obtain ⟨_, T6, L6, X6, hQ6, st6⟩ := own_cP X0 hx hZ ho hml (cw18 hw) (rm33_0 l Z a0 hw a1 w3 k4 h0 n0 OL0 pr2 pr3 pr1 pr4 pr5 pr6 pr7) e0 pr5 7 #[rv a1, rv a2, rv w3, iv o0] [] [] 0 rfl (hb hy d32_7) (by decide)
  obtain ⟨b6_0, kx6_0, rfl, Nq6, K6, u6_0, u6_1, u6_2, u6_3, u6_4, u6_5, u6_6⟩ := hQ6
  have KK6 : Keep h0 T6.heap [a1] := (Keep.refl h0 [a1]).trans K6 (allS (Or.inl (List.mem_of_getElem? (i := 0) rfl)) all0)
  have g_b6_0 : n0 ≤ b6_0 := Nat.le_trans (Nat.le_trans (Nat.le_of_eq OL0.1.symm) OL0.2.1) u6_0
  have sz_b6_0 : h0.size ≤ b6_0 := Nat.le_trans (Keep.refl h0 [a1]).1 u6_0
  have N6 := Fr.app N0 Nq6
  obtain ⟨cl7, Ar7, q7, S7, M7, Hs7, G7⟩ := id u6_4
  have hin7 : ¬ (o0 < 0 ∨ cl7.slots.size ≤ (o0).toNatClampNeg) := inb_of S7 ⟨by decide, by decide⟩
  have fc8 := (pr8.keep K6)
  obtain ⟨T9, h9, X9, e9, W9, st9⟩ := stR X6 hx hZ rfl Ar7 (j := o0) hin7 rfl (Sto.ofV Ar7 q7 u6_5 (Ins.of_exa fc8 (wd306 hw))) (g := (mkF m 14 #[rv a1, rv a2, rv b6_0, iv o0] [(.ref a2), vi0, (.ref b6_0)])) rfl rfl (hb hy d32_14)
  have V9 : Arv Z h9 b6_0 kx6_0 (.object s20) (10 : Int32) [(.ref a2), .null, .null, .null, .null, .null, .null, .null, .null, .null] .null := Arv.set Ar7 q7 S7 M7 Hs7 G7 rfl W9 0 rfl (Nat.le_of_ble_eq_true rfl)
  have KK9 : Keep h0 h9 [a1] := KK6.wr W9 (Or.inr sz_b6_0)
  have N9 := Fr.snoc X9 N6 g_b6_0
  have fc10 := ((pr5.keep K6).wr W9)
  have nz11 := nl pr7.lt sz_b6_0
  have fc12 := (u6_1.other W9 (Or.inl nz11))
  obtain ⟨T13, h13, X13, e13, W13, st13⟩ := putF X9 hx hZ ho (host := "") (Or.inl (wd234 hw)) Via.refl e9 fc12 fc10 (Or.inl (wd235 hw)) (wd71 hw) (ty := .int) (by decide) rfl rfl (g := (mkF m 19 #[rv a1, rv a2, rv b6_0, iv o0] [vi1, (.ref a1)])) rfl rfl (hb hy d32_19)
  have Fw13 := fc12.same W13
  have KK13 : Keep h0 h13 [a1] := KK9.wr W13 (Or.inl (List.mem_of_getElem? (i := 0) rfl))
  have N13 := Fr.snoc X13 N9 pr6
  have fc14 := ((u6_3.other W9 (Or.inl nz11)).other W13 (Or.inr (slot_ne (Or.inl (wd90 hw)) (Or.inl (wd235 hw)) (by decide) (t := .int) (t' := .int) (by decide) (by decide))))
  have fc15 := ((u6_2.other W9 (Or.inl nz11)).other W13 (Or.inr (slot_ne (Or.inl (wd93 hw)) (Or.inl (wd235 hw)) (by decide) (t := (.array (.object s20))) (t' := .int) (by decide) (by decide))))
  have fc16 := (V9.other W13 (Ne.symm nz11))
  have fc17 := ((u6_6.wr W9).wr W13)
  refine ⟨none, _, _, _, _, _, X13, e13, by decide, fun _ => rfl, fun fs hr => ?_, ?_⟩
  · refine xiloadN X0 hx hy d32_0 rfl ?_
    refine xaloadN X0 hx hy d32_1 rfl rfl ?_
    refine X0.arraylength hx (by rw [e0]; exact Ar5.1) (State.isArrayOf_alike hZ.alike Ar5.2.1) (g := (mkF m 2 #[rv a1, rv a2, rv w3, iv o0] [(.ref w3), vi0])) rfl rfl (hb hy d32_2) _ ?_
    rw [len_of Sz5 Nn5]
    refine XS.icmpNo X0.here hx rfl (hb hy d32_3) rfl (teq (rfl : o0 = o0)).2 ?_
    refine xaloadN X0 hx hy d32_6 rfl rfl ?_
    refine st6 _ ?_
    refine XS.astoreN X6.here hx rfl (hb hy d32_10) rfl rfl (l' := #[rv a1, rv a2, rv b6_0, iv o0]) rfl ?_
    refine xaloadN X6 hx hy d32_11 rfl rfl ?_
    refine xiloadN X6 hx hy d32_12 rfl ?_
    refine xaloadN X6 hx hy d32_13 rfl rfl ?_
    refine st9 _ ?_
    refine xaloadN X9 hx hy d32_15 rfl rfl ?_
    refine xiloadN X9 hx hy d32_16 rfl ?_
    refine XS.iconst X9.here hx rfl (hb hy d32_17) ?_
    refine XS.iadd X9.here hx rfl (hb hy d32_18) rfl ?_
    refine st13 _ ?_
    show SS p e below T13 m 22 #[rv a1, rv a2, rv b6_0, iv o0] [] _
    exact X13.returnOut hx hret (hb hy d32_22) hr
  · exact ⟨b6_0, kx6_0, rfl, N13, KK13, sz_b6_0, Fw13, fc15, fc14, fc16, u6_5, fc17⟩
theorem pd_14 : parseMethodDescriptor "(Ljava/lang/Object;[Ljava/lang/Object;I)V" = some ⟨[(.object "java/lang/Object"), (.array (.object "java/lang/Object")), .int], none⟩ := by decide +kernel
theorem cw19 {a0 Z} (hw : HW a0 Z) : CP a0 Z s27 131 mn32 3 (.code mn32 jdk_38_method_24_code 4 none) :=
  ⟨wx hw 236 rfl, wx hw 237 rfl, wx hw 239 rfl, fun _ hZ => Cond.privateMethod_at (mvP hZ (wd238 hw) (args := #[])), wx hw 240 rfl, wx hw 72 rfl, by decide, _, _, pd_14, rfl⟩
theorem d31_23 : DC cb31 23 (.iconst 1) 1 := by decide +kernel
theorem d31_24 : DC cb31 24 (.ireturn) 1 := by decide +kernel
theorem ef_31_20 (m : MethodId) (x0 : Addr) (x1 : Addr) : entryFrame m #[(.ref x0), (.ref x1)] 2 = mkF m 0 #[.val (.ref x0), .val (.ref x1)] [] := by first | (simp [entryFrame, mkF, argsToLocals, Value.category]; done) | rfl
theorem rm31_0 (l : Launch) (Z : State) (a0 : Array Value) (hw : HW a0 Z) (a1 a2 w5 : Addr) (k10 : ClassId) (h0 : Heap) (n0 : Nat) (OL0 : Old Z n0 h0) (pr1 : Fld Z h0 a1 s26 s36 "I" vi0) (pr2 : Exa Z h0 a1 s27) (pr3 : n0 ≤ a1) (pr4 : Fld Z h0 a1 s27 s12 s7 (.ref w5)) (pr5 : Fld Z h0 a1 s27 "size" "I" vi0) (pr6 : Arv Z Z.heap w5 k10 (.object s20) o0 [] .null) (pr7 : Sta Z Z.heap s27 s1 s7 (.ref w5)) (pr8 : Exa Z h0 a2 s46) :
    MF l Z mn31 jdk_38_method_25_code 2 (some .boolean) ⟨4, 1, 10, 56⟩ #[(.ref a1), (.ref a2)] h0 (fun v h L => ∃ b11_0 : Addr, ∃ kx11_0 : ClassId, v = some vi1 ∧ Fr n0 L ∧ Keep h0 h [a1] ∧ h0.size ≤ b11_0 ∧ Fld Z h a1 s26 s36 "I" vi1 ∧ Fld Z h a1 s27 s12 s7 (.ref b11_0) ∧ Fld Z h a1 s27 "size" "I" vi1 ∧ Arv Z h b11_0 kx11_0 (.object s20) (10 : Int32) [(.ref a2), .null, .null, .null, .null, .null, .null, .null, .null, .null] .null ∧ Ovr Z kx11_0 s20 ∧ Exa Z h b11_0 s7) := by
  refine own_start (plainFor_of_name pn_6) (fun m => (ef_31_20 m a1 a2)) ?_
  intro p e s m below meth c s₁ hZ hx hy hml ho hnm hret X0 e0
  have N0 := Fr.nil n0
  obtain ⟨T3, X3, e3, st3⟩ := gF X0 hx hZ ho (wd232 hw) (Via.of (wd233 hw)) e0 pr1 2 #[rv a1, rv a2] [(.ref a1)] (hb hy d31_2)
  obtain ⟨T4, h4, X4, e4, W4, st4⟩ := putF X3 hx hZ ho (host := "") (Or.inl (wd232 hw)) (Via.of (wd233 hw)) e3 pr1 pr2 (Or.inl (wd90 hw)) (wd71 hw) (ty := .int) (by decide) rfl rfl (g := (mkF m 7 #[rv a1, rv a2] [vi1, (.ref a1)])) rfl rfl (hb hy d31_7)
  have Fw4 := pr1.same W4
  have KK4 : Keep h0 h4 [a1] := (Keep.refl h0 [a1]).wr W4 (Or.inl (List.mem_of_getElem? (i := 0) rfl))
  have OL4 := OL0.wr W4 pr3
  have N4 := Fr.snoc X4 N0 pr3
  have fc6 := (pr4.other W4 (Or.inr (slot_ne (Or.inl (wd93 hw)) (Or.inl (wd90 hw)) (by decide) (t := (.array (.object s20))) (t' := .int) (by decide) (by decide))))
  obtain ⟨T7, X7, e7, st7⟩ := gF X4 hx hZ ho (wd92 hw) Via.refl e4 fc6 13 #[rv a1, rv a2] [(.ref a2), (.ref a1)] (hb hy d31_13)
  have fc8 := (pr5.other W4 (Or.inr (slot_ne (Or.inl (wd235 hw)) (Or.inl (wd90 hw)) (by decide) (t := .int) (t' := .int) (by decide) (by decide))))
  obtain ⟨T9, X9, e9, st9⟩ := gF X7 hx hZ ho (wd234 hw) Via.refl e7 fc8 17 #[rv a1, rv a2] [(.ref w5), (.ref a2), (.ref a1)] (hb hy d31_17)
  have fc12 := (pr2.wr W4)
  have fc13 := (pr8.wr W4)
  obtain ⟨_, T11, L11, X11, hQ11, st11⟩ := own_cP X9 hx hZ ho hml (cw19 hw) (rm32_0 l Z a0 hw a1 a2 w5 k10 h4 n0 OL4 pr6 fc8 fc6 pr7 fc12 pr3 Fw4 fc13) e9 fc12 20 #[rv a1, rv a2] [(.ref a2), (.ref w5), vi0] [] 0 rfl (hb hy d31_20) (by decide)
  obtain ⟨b11_0, kx11_0, rfl, Nq11, K11, u11_0, u11_1, u11_2, u11_3, u11_4, u11_5, u11_6⟩ := hQ11
  have KK11 : Keep h0 T11.heap [a1] := KK4.trans K11 (allS (Or.inl (List.mem_of_getElem? (i := 0) rfl)) all0)
  have sz_b11_0 : h0.size ≤ b11_0 := Nat.le_trans KK4.1 u11_0
  have N11 := Fr.app N4 Nq11
  refine ⟨some vi1, _, _, _, _, _, X11, rfl, by decide, nofun, fun fs hr => ?_, ?_⟩
  · refine xaloadN X0 hx hy d31_0 rfl rfl ?_
    refine XS.dup X0.here hx rfl (hb hy d31_1) rfl rfl ?_
    refine st3 _ ?_
    refine XS.iconst X3.here hx rfl (hb hy d31_5) ?_
    refine XS.iadd X3.here hx rfl (hb hy d31_6) rfl ?_
    refine st4 _ ?_
    refine xaloadN X4 hx hy d31_10 rfl rfl ?_
    refine xaloadN X4 hx hy d31_11 rfl rfl ?_
    refine xaloadN X4 hx hy d31_12 rfl rfl ?_
    refine st7 _ ?_
    refine xaloadN X7 hx hy d31_16 rfl rfl ?_
    refine st9 _ ?_
    refine st11 _ ?_
    refine XS.iconst X11.here hx rfl (hb hy d31_23) ?_
    show SS p e below T11 m 24 #[rv a1, rv a2] [vi1] _
    exact retN X11 hx (t := .boolean) hret (by simp) (hb hy d31_24) hr
  · exact ⟨b11_0, kx11_0, rfl, N11, KK11, sz_b11_0, u11_3, u11_2, u11_1, u11_4, u11_5, u11_6⟩
theorem pd_15 : parseMethodDescriptor "(Ljava/lang/Object;)Z" = some ⟨[(.object "java/lang/Object")], some .boolean⟩ := by decide +kernel
theorem cw20 {a0 Z} (hw : HW a0 Z) : CI a0 Z s45 78 (⟨s30, "add", "(Ljava/lang/Object;)Z"⟩ : MethodName) mn31 s27 1 (.code mn31 jdk_38_method_25_code 2 (some .boolean)) :=
  ⟨wx hw 223 rfl, wx hw 224 rfl, ⟨wx hw 225 rfl, by first | rfl | simp [Cond.onTables, Cond.keepsFace, Cond.keeps, Cond.steady]⟩, wx hw 226 rfl, wx hw 227 rfl, wx hw 228 rfl, wx hw 229 rfl, wx hw 230 rfl, wx hw 231 rfl, wx hw 72 rfl, by decide, _, _, pd_15, rfl⟩
theorem d40_19 : DC cb40 19 (.pop) 1 := by decide +kernel
theorem d40_20 : DC cb40 20 (.return_) 1 := by decide +kernel
theorem ef_40_21 (m : MethodId) (x0 : Addr) (x1 : Int32) (x2 : Addr) (x3 : Int32) : entryFrame m #[(.ref x0), (.int x1), (.ref x2), (.int x3)] 4 = mkF m 0 #[.val (.ref x0), .val (.int x1), .val (.ref x2), .val (.int x3)] [] := by first | (simp [entryFrame, mkF, argsToLocals, Value.category]; done) | rfl
theorem rm40_0 (l : Launch) (Z : State) (a0 : Array Value) (hw : HW a0 Z) (a1 : Addr) (p2 : Int32) (a3 : Addr) (p4 : Int32) (a5 w9 : Addr) (k10 : ClassId) (h0 : Heap) (n0 : Nat) (OL0 : Old Z n0 h0) (pr1 : Fld Z h0 a1 s45 s16 s5 (.ref a5)) (pr2 : Fld Z h0 a5 s26 s36 "I" vi0) (pr3 : Exa Z h0 a5 s27) (pr4 : n0 ≤ a5) (pr5 : Fld Z h0 a5 s27 s12 s7 (.ref w9)) (pr6 : Fld Z h0 a5 s27 "size" "I" vi0) (pr7 : Arv Z Z.heap w9 k10 (.object s20) o0 [] .null) (pr8 : Sta Z Z.heap s27 s1 s7 (.ref w9)) :
    MF l Z mn40 prog_66_method_7_code 4 none ⟨5, 2, 13, 69⟩ #[(.ref a1), (.int p2), (.ref a3), (.int p4)] h0 (fun v h L => ∃ b11_0 b7 : Addr, ∃ kx11_0 : ClassId, v = none ∧ Fr n0 L ∧ Keep h0 h [a5] ∧ h0.size ≤ b11_0 ∧ h0.size ≤ b7 ∧ b11_0 ≠ b7 ∧ Fld Z h a5 s26 s36 "I" vi1 ∧ Fld Z h a5 s27 s12 s7 (.ref b11_0) ∧ Fld Z h a5 s27 "size" "I" vi1 ∧ Arv Z h b11_0 kx11_0 (.object s20) (10 : Int32) [(.ref b7), .null, .null, .null, .null, .null, .null, .null, .null, .null] .null ∧ Ovr Z kx11_0 s20 ∧ Exa Z h b11_0 s7 ∧ Exa Z h b7 s46 ∧ Fld Z h b7 s46 "field" "I" (.int p2) ∧ Fld Z h b7 s46 "pattern" s4 (.ref a3) ∧ Fld Z h b7 s46 "negated" "Z" (.int (nar .boolean p4))) := by
  refine own_start (plainFor_of_name pn_7) (fun m => (ef_40_21 m a1 p2 a3 p4)) ?_
  intro p e s m below meth c s₁ hZ hx hy hml ho hnm hret X0 e0
  have N0 := Fr.nil n0
  obtain ⟨T6, X6, e6, st6⟩ := gF X0 hx hZ ho (wd94 hw) Via.refl e0 pr1 1 #[rv a1, iv p2, rv a3, iv p4] [] (hb hy d40_1)
  obtain ⟨T7, h7, X7, e7, E7, A7, D7, -, st7⟩ := newO X6 hx hZ ho (wd288 hw) (wd289 hw) (wd290 hw) e6 (g := (mkF m 4 #[rv a1, iv p2, rv a3, iv p4] [(.ref a5)])) rfl (hb hy d40_4) (by decide) (by decide)
  obtain ⟨b7, g7⟩ : ∃ z, z = h0.size := ⟨_, rfl⟩
  rw [← g7] at A7 D7 st7
  have g_b7 : n0 ≤ b7 := (Nat.le_trans (Nat.le_trans (Nat.le_of_eq OL0.1.symm) OL0.2.1) (Nat.le_of_eq g7.symm))
  have sz_b7 : h0.size ≤ b7 := (Nat.le_trans (Keep.refl h0 [a5]).1 (Nat.le_of_eq g7.symm))
  have KK7 : Keep h0 h7 [a5] := (Keep.refl h0 [a5]).ext E7
  have OL7 := OL0.ext E7
  have F_field_b7 : Fld Z h7 b7 s46 "field" "I" vi0 := D7 (Or.inr (wd301 hw)) (ty := .int) (by decide)
  have F_pattern_b7 : Fld Z h7 b7 s46 "pattern" s4 .null := D7 (Or.inr (wd303 hw)) (ty := (.object s22)) (by decide)
  have F_negated_b7 : Fld Z h7 b7 s46 "negated" "Z" vi0 := D7 (Or.inr (wd305 hw)) (ty := .boolean) (by decide)
  obtain ⟨_, T8, L8, X8, hQ8, st8⟩ := own_cR X7 hx hZ ho hml (cw15 hw) (rm41_0 l Z a0 hw b7 p2 a3 p4 h7 n0 OL7 A7 F_field_b7 g_b7 F_pattern_b7 F_negated_b7) e7 b7 11 #[rv a1, iv p2, rv a3, iv p4] [(.int p2), (.ref a3), (.int p4)] [(.ref b7), (.ref a5)] 2 rfl (hb hy d40_11) (by decide)
  obtain ⟨rfl, Nq8, K8, u8_0, u8_1, u8_2⟩ := hQ8
  have KK8 : Keep h0 T8.heap [a5] := KK7.trans K8 (allS (Or.inr sz_b7) all0)
  have OL8 := OL7.keep K8 (allS g_b7 all0)
  have N8 := Fr.app N0 Nq8
  have nz12 := nl pr2.lt sz_b7
  have fc13 := ((pr2.ext E7).keep K8 (ninS nz12 nin0))
  have fc14 := ((pr3.ext E7).keep K8)
  have fc15 := ((pr5.ext E7).keep K8 (ninS nz12 nin0))
  have fc16 := ((pr6.ext E7).keep K8 (ninS nz12 nin0))
  have fc17 := (A7.keep K8)
  obtain ⟨_, T11, L11, X11, hQ11, st11⟩ := own_cI X8 hx hZ ho hml (cw20 hw) (rm31_0 l Z a0 hw a5 b7 w9 k10 T8.heap n0 OL8 fc13 fc14 pr4 fc15 fc16 pr7 pr8 fc17) rfl fc14 14 #[rv a1, iv p2, rv a3, iv p4] [(.ref b7)] [] 0 rfl (hb hy d40_14) (by decide)
  obtain ⟨b11_0, kx11_0, rfl, Nq11, K11, u11_0, u11_1, u11_2, u11_3, u11_4, u11_5, u11_6⟩ := hQ11
  have KK11 : Keep h0 T11.heap [a5] := KK8.trans K11 (allS (Or.inl (List.mem_of_getElem? (i := 0) rfl)) all0)
  have sz_b11_0 : h0.size ≤ b11_0 := Nat.le_trans KK8.1 u11_0
  have N11 := Fr.app N8 Nq11
  have nz18 := nl u8_2.lt u11_0
  have fc19 := (fc17.keep K11)
  have fc20 := (u8_0.keep K11 (ninS (Ne.symm nz12) nin0))
  have fc21 := (u8_1.keep K11 (ninS (Ne.symm nz12) nin0))
  have fc22 := (u8_2.keep K11 (ninS (Ne.symm nz12) nin0))
  refine ⟨none, _, _, _, _, _, X11, rfl, by decide, fun _ => rfl, fun fs hr => ?_, ?_⟩
  · refine xaloadN X0 hx hy d40_0 rfl rfl ?_
    refine st6 _ ?_
    refine st7 _ ?_
    refine XS.dup X7.here hx rfl (hb hy d40_7) rfl rfl ?_
    refine xiloadN X7 hx hy d40_8 rfl ?_
    refine xaloadN X7 hx hy d40_9 rfl rfl ?_
    refine xiloadN X7 hx hy d40_10 rfl ?_
    refine st8 _ ?_
    refine st11 _ ?_
    refine XS.pop X11.here hx rfl (hb hy d40_19) rfl rfl ?_
    show SS p e below T11 m 20 #[rv a1, iv p2, rv a3, iv p4] [] _
    exact X11.returnOut hx hret (hb hy d40_20) hr
  · exact ⟨b11_0, b7, kx11_0, rfl, N11, KK11, sz_b11_0, sz_b7, (Ne.symm nz18), u11_1, u11_2, u11_3, u11_4, u11_5, u11_6, fc19, fc20, fc21, fc22⟩
theorem cw21 {a0 Z} (hw : HW a0 Z) : CV a0 Z s47 45 mn40 mn40 s45 3 (.code mn40 prog_66_method_7_code 4 none) :=
  ⟨wx hw 283 rfl, wx hw 284 rfl, (fun _ hZ => notFace_of_selects (args := #[]) (mvT hZ (wd286 hw))), wx hw 286 rfl, wx hw 285 rfl, wx hw 287 rfl, wx hw 47 rfl, by decide, _, _, pd_10, rfl⟩
theorem sg150_0 (l : Launch) (Z : State) (a0 : Array Value) (hw : HW a0 Z) (p1 p2 : Int32) (q3 q4 : Int64) (p5 : Int32) (q6 q7 : Int64) (p8 p9 p10 : Int32) (a11 a12 a13 a15 : Addr) (k16 : ClassId) (a17 : Addr) (p18 : Int32) (a19 w21 : Addr) (k22 : ClassId) (h0 : Heap) (n0 : Nat) (OL0 : Old Z n0 h0) (pr1 : Fld Z h0 a13 s45 s48 "Z" vi0) (pr2 : Exa Z h0 a13 s45) (pr3 : Fld Z h0 a13 s45 "sets" s8 (.ref a15)) (pr4 : Asl Z h0 a15 k16 tV o12 p5 .null) (pr5 : n0 ≤ a15) (pr6 : Ovr Z k16 s43) (pr7 : Exa Z h0 a12 s43) (pr8 : a13 ≠ a15) (pr9 : n0 ≤ a13) (pr10 : Fld Z h0 a13 s45 s11 s5 (.ref a17)) (pr11 : Fld Z h0 a13 s45 s15 "Z" (.int p18)) (pr12 : Fld Z h0 a13 s45 s16 s5 (.ref a19)) (pr13 : a15 ≠ a13) (pr14 : Fld Z h0 a19 s26 s36 "I" vi0) (pr15 : Exa Z h0 a19 s27) (pr16 : n0 ≤ a19) (pr17 : Fld Z h0 a19 s27 s12 s7 (.ref w21)) (pr18 : Fld Z h0 a19 s27 "size" "I" vi0) (pr19 : Arv Z Z.heap w21 k22 (.object s20) o0 [] .null) (pr20 : Sta Z Z.heap s27 s1 s7 (.ref w21)) (pr21 : a13 ≠ a19) (pr22 : a15 ≠ a19)
    (st0 : ST Z p l e s m args below meth c T0 locs cells slots h0 n0) (hcl : cells + 2 ≤ 80) (hsl : slots + 13 ≤ 320) : SG p l e s m args below meth c T0 n0 150 (LV p1 p2 q3 q4 p5 q6 q7 p8 p9 p10 a11 a12 a13 uu uu uu) := by
  obtain ⟨hZ, hx, hy, hml, ho, hnm, hret, X0, e0, N0⟩ := st0
  have pre0 : ∀ t, SS p e below T0 m 150 (LV p1 p2 q3 q4 p5 q6 q7 p8 p9 p10 a11 a12 a13 uu uu uu) [] t → SS p e below T0 m 150 (LV p1 p2 q3 q4 p5 q6 q7 p8 p9 p10 a11 a12 a13 uu uu uu) [] t := fun _ k => k
  have pre14 : ∀ t, SS p e below T0 m 154 (LV p1 p2 q3 q4 p5 q6 q7 p8 p9 p10 a11 a12 a13 uu uu uu) [(.int (p1 &&& (16 : Int32)))] t → SS p e below T0 m 150 (LV p1 p2 q3 q4 p5 q6 q7 p8 p9 p10 a11 a12 a13 uu uu uu) [] t := by
    intro t kt
    refine pre0 _ ?_
    refine xiloadN X0 hx hy at_150 rfl ?_
    refine XS.bipush X0.here hx rfl (hb hy at_151) ?_
    refine XS.iand X0.here hx rfl (hb hy at_153) rfl ?_
    exact kt
  by_cases hf14 : (p1 &&& (16 : Int32)) = o0
  · obtain ⟨_, _, _, _, XX20, hk20, hN20, sg20⟩ := sg168_0 l Z a0 hw p1 p2 q3 q4 p5 q6 q7 p8 p9 p10 a11 a12 a13 a15 k16 a17 p18 a19 h0 n0 OL0 pr1 pr2 pr3 pr4 pr5 pr6 pr7 pr8 pr9 pr10 pr11 pr12 pr13 ⟨hZ, hx, hy, hml, ho, hnm, hret, X0, e0, N0⟩ (by show cells + 0 ≤ 80; omega) (by show slots + 0 ≤ 320; omega)
    refine ⟨_, _, _, _, XX20, hk20, hN20, fun fs hr => pre14 _ ?_⟩
    refine XS.ifYes X0.here hx rfl (pc0 := 154) (pc' := 168) rfl (hb hy at_154) rfl ((if0 _ _).trans (teq hf14).1) (by decide) (by decide) ?_
    exact sg20 fs hr
  · obtain ⟨_, T23, L23, X23, hQ23, st23⟩ := own_cV X0 hx hZ ho hml (cw21 hw) (rm40_0 l Z a0 hw a13 p8 a11 p10 a19 w21 k22 h0 n0 OL0 pr12 pr14 pr15 pr16 pr17 pr18 pr19 pr20) e0 pr2 165 (LV p1 p2 q3 q4 p5 q6 q7 p8 p9 p10 a11 a12 a13 uu uu uu) [(.int p8), (.ref a11), (.int p10)] [] 0 rfl (hb hy at_165) ⟨by decide, by decide, by show cells + 2 ≤ 80; omega, by show slots + 13 ≤ 320; omega⟩
    obtain ⟨b23_0, b23_1, kx23_0, rfl, Nq23, K23, u23_0, u23_1, u23_2, u23_3, u23_4, u23_5, u23_6, u23_7, u23_8, u23_9, u23_10, u23_11, u23_12⟩ := hQ23
    have OL23 := OL0.keep K23 (allS pr16 all0)
    have N23 := Fr.app N0 Nq23
    have fc25 := (pr1.keep K23 (ninS pr21 nin0))
    have fc26 := (pr2.keep K23)
    have fc27 := (pr3.keep K23 (ninS pr21 nin0))
    have fc28 := (pr4.keep K23 (ninS pr22 nin0))
    have fc29 := (pr7.keep K23)
    have fc30 := (pr10.keep K23 (ninS pr21 nin0))
    have fc31 := (pr11.keep K23 (ninS pr21 nin0))
    have fc32 := (pr12.keep K23 (ninS pr21 nin0))
    obtain ⟨_, _, _, _, XX24, hk24, hN24, sg24⟩ := sg168_0 l Z a0 hw p1 p2 q3 q4 p5 q6 q7 p8 p9 p10 a11 a12 a13 a15 k16 a17 p18 a19 T23.heap n0 OL23 fc25 fc26 fc27 fc28 pr5 pr6 fc29 pr8 pr9 fc30 fc31 fc32 pr13 ⟨hZ, hx, hy, hml, ho, hnm, hret, X23, rfl, N23⟩ (by show cells + 2 + 0 ≤ 80; omega) (by show slots + 13 + 0 ≤ 320; omega)
    refine ⟨_, _, _, _, XX24, hk24, hN24, fun fs hr => pre14 _ ?_⟩
    refine XS.ifNo X0.here hx rfl (hb hy at_154) rfl ((if0 _ _).trans (feq hf14).1) ?_
    refine xaload X0 hx hy at_157 rfl rfl ?_
    refine xiload X0 hx hy at_159 rfl ?_
    refine xaload X0 hx hy at_161 rfl rfl ?_
    refine xiload X0 hx hy at_163 rfl ?_
    refine st23 _ ?_
    exact sg24 fs hr
theorem d30_0 : DC cb30 0 (.aload_n 0) 1 := by decide +kernel
theorem d30_1 : DC cb30 1 (.getfield 31) 3 := by decide +kernel
theorem d30_4 : DC cb30 4 (.aload_n 1) 1 := by decide +kernel
theorem d30_5 : DC cb30 5 (.invokeinterface 78 2) 5 := by decide +kernel
theorem rm32_1 (l : Launch) (Z : State) (a0 : Array Value) (hw : HW a0 Z) (a1 a2 w3 : Addr) (k4 : ClassId) (h0 : Heap) (n0 : Nat) (OL0 : Old Z n0 h0) (pr1 : Arv Z Z.heap w3 k4 (.object s20) o0 [] .null) (pr2 : Fld Z h0 a1 s27 "size" "I" vi0) (pr3 : Fld Z h0 a1 s27 s12 s7 (.ref w3)) (pr4 : Sta Z Z.heap s27 s1 s7 (.ref w3)) (pr5 : Exa Z h0 a1 s27) (pr6 : n0 ≤ a1) (pr7 : Fld Z h0 a1 s26 s36 "I" vi1) (pr8 : Exa Z h0 a2 s43) :
    MF l Z mn32 jdk_38_method_24_code 4 none ⟨3, 1, 10, 41⟩ #[(.ref a1), (.ref a2), (.ref w3), vi0] h0 (fun v h L => ∃ b6_0 : Addr, ∃ kx6_0 : ClassId, v = none ∧ Fr n0 L ∧ Keep h0 h [a1] ∧ h0.size ≤ b6_0 ∧ Fld Z h a1 s27 "size" "I" vi1 ∧ Fld Z h a1 s27 s12 s7 (.ref b6_0) ∧ Fld Z h a1 s26 s36 "I" vi1 ∧ Arv Z h b6_0 kx6_0 (.object s20) (10 : Int32) [(.ref a2), .null, .null, .null, .null, .null, .null, .null, .null, .null] .null ∧ Ovr Z kx6_0 s20 ∧ Exa Z h b6_0 s7) := by
  refine own_start (plainFor_of_name pn_6) (fun m => (ef_32_19 m a1 a2 w3)) ?_
  intro p e s m below meth c s₁ hZ hx hy hml ho hnm hret X0 e0
  have N0 := Fr.nil n0
  obtain ⟨cl5, Ar5, -, Sz5, Nn5, -, -⟩ := id (pr1.ext OL0.2)
  obtain ⟨_, T6, L6, X6, hQ6, st6⟩ := own_cP X0 hx hZ ho hml (cw18 hw) (rm33_0 l Z a0 hw a1 w3 k4 h0 n0 OL0 pr2 pr3 pr1 pr4 pr5 pr6 pr7) e0 pr5 7 #[rv a1, rv a2, rv w3, iv o0] [] [] 0 rfl (hb hy d32_7) (by decide)
  obtain ⟨b6_0, kx6_0, rfl, Nq6, K6, u6_0, u6_1, u6_2, u6_3, u6_4, u6_5, u6_6⟩ := hQ6
  have KK6 : Keep h0 T6.heap [a1] := (Keep.refl h0 [a1]).trans K6 (allS (Or.inl (List.mem_of_getElem? (i := 0) rfl)) all0)
  have g_b6_0 : n0 ≤ b6_0 := Nat.le_trans (Nat.le_trans (Nat.le_of_eq OL0.1.symm) OL0.2.1) u6_0
  have sz_b6_0 : h0.size ≤ b6_0 := Nat.le_trans (Keep.refl h0 [a1]).1 u6_0
  have N6 := Fr.app N0 Nq6
  obtain ⟨cl7, Ar7, q7, S7, M7, Hs7, G7⟩ := id u6_4
  have hin7 : ¬ (o0 < 0 ∨ cl7.slots.size ≤ (o0).toNatClampNeg) := inb_of S7 ⟨by decide, by decide⟩
  have fc8 := (pr8.keep K6)
  obtain ⟨T9, h9, X9, e9, W9, st9⟩ := stR X6 hx hZ rfl Ar7 (j := o0) hin7 rfl (Sto.ofV Ar7 q7 u6_5 (Ins.of_exa fc8 (wd256 hw))) (g := (mkF m 14 #[rv a1, rv a2, rv b6_0, iv o0] [(.ref a2), vi0, (.ref b6_0)])) rfl rfl (hb hy d32_14)
  have V9 : Arv Z h9 b6_0 kx6_0 (.object s20) (10 : Int32) [(.ref a2), .null, .null, .null, .null, .null, .null, .null, .null, .null] .null := Arv.set Ar7 q7 S7 M7 Hs7 G7 rfl W9 0 rfl (Nat.le_of_ble_eq_true rfl)
  have KK9 : Keep h0 h9 [a1] := KK6.wr W9 (Or.inr sz_b6_0)
  have N9 := Fr.snoc X9 N6 g_b6_0
  have fc10 := ((pr5.keep K6).wr W9)
  have nz11 := nl pr7.lt sz_b6_0
  have fc12 := (u6_1.other W9 (Or.inl nz11))
  obtain ⟨T13, h13, X13, e13, W13, st13⟩ := putF X9 hx hZ ho (host := "") (Or.inl (wd234 hw)) Via.refl e9 fc12 fc10 (Or.inl (wd235 hw)) (wd71 hw) (ty := .int) (by decide) rfl rfl (g := (mkF m 19 #[rv a1, rv a2, rv b6_0, iv o0] [vi1, (.ref a1)])) rfl rfl (hb hy d32_19)
  have Fw13 := fc12.same W13
  have KK13 : Keep h0 h13 [a1] := KK9.wr W13 (Or.inl (List.mem_of_getElem? (i := 0) rfl))
  have N13 := Fr.snoc X13 N9 pr6
  have fc14 := ((u6_3.other W9 (Or.inl nz11)).other W13 (Or.inr (slot_ne (Or.inl (wd90 hw)) (Or.inl (wd235 hw)) (by decide) (t := .int) (t' := .int) (by decide) (by decide))))
  have fc15 := ((u6_2.other W9 (Or.inl nz11)).other W13 (Or.inr (slot_ne (Or.inl (wd93 hw)) (Or.inl (wd235 hw)) (by decide) (t := (.array (.object s20))) (t' := .int) (by decide) (by decide))))
  have fc16 := (V9.other W13 (Ne.symm nz11))
  have fc17 := ((u6_6.wr W9).wr W13)
  refine ⟨none, _, _, _, _, _, X13, e13, by decide, fun _ => rfl, fun fs hr => ?_, ?_⟩
  · refine xiloadN X0 hx hy d32_0 rfl ?_
    refine xaloadN X0 hx hy d32_1 rfl rfl ?_
    refine X0.arraylength hx (by rw [e0]; exact Ar5.1) (State.isArrayOf_alike hZ.alike Ar5.2.1) (g := (mkF m 2 #[rv a1, rv a2, rv w3, iv o0] [(.ref w3), vi0])) rfl rfl (hb hy d32_2) _ ?_
    rw [len_of Sz5 Nn5]
    refine XS.icmpNo X0.here hx rfl (hb hy d32_3) rfl (teq (rfl : o0 = o0)).2 ?_
    refine xaloadN X0 hx hy d32_6 rfl rfl ?_
    refine st6 _ ?_
    refine XS.astoreN X6.here hx rfl (hb hy d32_10) rfl rfl (l' := #[rv a1, rv a2, rv b6_0, iv o0]) rfl ?_
    refine xaloadN X6 hx hy d32_11 rfl rfl ?_
    refine xiloadN X6 hx hy d32_12 rfl ?_
    refine xaloadN X6 hx hy d32_13 rfl rfl ?_
    refine st9 _ ?_
    refine xaloadN X9 hx hy d32_15 rfl rfl ?_
    refine xiloadN X9 hx hy d32_16 rfl ?_
    refine XS.iconst X9.here hx rfl (hb hy d32_17) ?_
    refine XS.iadd X9.here hx rfl (hb hy d32_18) rfl ?_
    refine st13 _ ?_
    show SS p e below T13 m 22 #[rv a1, rv a2, rv b6_0, iv o0] [] _
    exact X13.returnOut hx hret (hb hy d32_22) hr
  · exact ⟨b6_0, kx6_0, rfl, N13, KK13, sz_b6_0, Fw13, fc15, fc14, fc16, u6_5, fc17⟩
theorem rm31_1 (l : Launch) (Z : State) (a0 : Array Value) (hw : HW a0 Z) (a1 a2 w5 : Addr) (k10 : ClassId) (h0 : Heap) (n0 : Nat) (OL0 : Old Z n0 h0) (pr1 : Fld Z h0 a1 s26 s36 "I" vi0) (pr2 : Exa Z h0 a1 s27) (pr3 : n0 ≤ a1) (pr4 : Fld Z h0 a1 s27 s12 s7 (.ref w5)) (pr5 : Fld Z h0 a1 s27 "size" "I" vi0) (pr6 : Arv Z Z.heap w5 k10 (.object s20) o0 [] .null) (pr7 : Sta Z Z.heap s27 s1 s7 (.ref w5)) (pr8 : Exa Z h0 a2 s43) :
    MF l Z mn31 jdk_38_method_25_code 2 (some .boolean) ⟨4, 1, 10, 56⟩ #[(.ref a1), (.ref a2)] h0 (fun v h L => ∃ b11_0 : Addr, ∃ kx11_0 : ClassId, v = some vi1 ∧ Fr n0 L ∧ Keep h0 h [a1] ∧ h0.size ≤ b11_0 ∧ Fld Z h a1 s26 s36 "I" vi1 ∧ Fld Z h a1 s27 s12 s7 (.ref b11_0) ∧ Fld Z h a1 s27 "size" "I" vi1 ∧ Arv Z h b11_0 kx11_0 (.object s20) (10 : Int32) [(.ref a2), .null, .null, .null, .null, .null, .null, .null, .null, .null] .null ∧ Ovr Z kx11_0 s20 ∧ Exa Z h b11_0 s7) := by
  refine own_start (plainFor_of_name pn_6) (fun m => (ef_31_20 m a1 a2)) ?_
  intro p e s m below meth c s₁ hZ hx hy hml ho hnm hret X0 e0
  have N0 := Fr.nil n0
  obtain ⟨T3, X3, e3, st3⟩ := gF X0 hx hZ ho (wd232 hw) (Via.of (wd233 hw)) e0 pr1 2 #[rv a1, rv a2] [(.ref a1)] (hb hy d31_2)
  obtain ⟨T4, h4, X4, e4, W4, st4⟩ := putF X3 hx hZ ho (host := "") (Or.inl (wd232 hw)) (Via.of (wd233 hw)) e3 pr1 pr2 (Or.inl (wd90 hw)) (wd71 hw) (ty := .int) (by decide) rfl rfl (g := (mkF m 7 #[rv a1, rv a2] [vi1, (.ref a1)])) rfl rfl (hb hy d31_7)
  have Fw4 := pr1.same W4
  have KK4 : Keep h0 h4 [a1] := (Keep.refl h0 [a1]).wr W4 (Or.inl (List.mem_of_getElem? (i := 0) rfl))
  have OL4 := OL0.wr W4 pr3
  have N4 := Fr.snoc X4 N0 pr3
  have fc6 := (pr4.other W4 (Or.inr (slot_ne (Or.inl (wd93 hw)) (Or.inl (wd90 hw)) (by decide) (t := (.array (.object s20))) (t' := .int) (by decide) (by decide))))
  obtain ⟨T7, X7, e7, st7⟩ := gF X4 hx hZ ho (wd92 hw) Via.refl e4 fc6 13 #[rv a1, rv a2] [(.ref a2), (.ref a1)] (hb hy d31_13)
  have fc8 := (pr5.other W4 (Or.inr (slot_ne (Or.inl (wd235 hw)) (Or.inl (wd90 hw)) (by decide) (t := .int) (t' := .int) (by decide) (by decide))))
  obtain ⟨T9, X9, e9, st9⟩ := gF X7 hx hZ ho (wd234 hw) Via.refl e7 fc8 17 #[rv a1, rv a2] [(.ref w5), (.ref a2), (.ref a1)] (hb hy d31_17)
  have fc12 := (pr2.wr W4)
  have fc13 := (pr8.wr W4)
  obtain ⟨_, T11, L11, X11, hQ11, st11⟩ := own_cP X9 hx hZ ho hml (cw19 hw) (rm32_1 l Z a0 hw a1 a2 w5 k10 h4 n0 OL4 pr6 fc8 fc6 pr7 fc12 pr3 Fw4 fc13) e9 fc12 20 #[rv a1, rv a2] [(.ref a2), (.ref w5), vi0] [] 0 rfl (hb hy d31_20) (by decide)
  obtain ⟨b11_0, kx11_0, rfl, Nq11, K11, u11_0, u11_1, u11_2, u11_3, u11_4, u11_5, u11_6⟩ := hQ11
  have KK11 : Keep h0 T11.heap [a1] := KK4.trans K11 (allS (Or.inl (List.mem_of_getElem? (i := 0) rfl)) all0)
  have sz_b11_0 : h0.size ≤ b11_0 := Nat.le_trans KK4.1 u11_0
  have N11 := Fr.app N4 Nq11
  refine ⟨some vi1, _, _, _, _, _, X11, rfl, by decide, nofun, fun fs hr => ?_, ?_⟩
  · refine xaloadN X0 hx hy d31_0 rfl rfl ?_
    refine XS.dup X0.here hx rfl (hb hy d31_1) rfl rfl ?_
    refine st3 _ ?_
    refine XS.iconst X3.here hx rfl (hb hy d31_5) ?_
    refine XS.iadd X3.here hx rfl (hb hy d31_6) rfl ?_
    refine st4 _ ?_
    refine xaloadN X4 hx hy d31_10 rfl rfl ?_
    refine xaloadN X4 hx hy d31_11 rfl rfl ?_
    refine xaloadN X4 hx hy d31_12 rfl rfl ?_
    refine st7 _ ?_
    refine xaloadN X7 hx hy d31_16 rfl rfl ?_
    refine st9 _ ?_
    refine st11 _ ?_
    refine XS.iconst X11.here hx rfl (hb hy d31_23) ?_
    show SS p e below T11 m 24 #[rv a1, rv a2] [vi1] _
    exact retN X11 hx (t := .boolean) hret (by simp) (hb hy d31_24) hr
  · exact ⟨b11_0, kx11_0, rfl, N11, KK11, sz_b11_0, u11_3, u11_2, u11_1, u11_4, u11_5, u11_6⟩
theorem d30_10 : DC cb30 10 (.pop) 1 := by decide +kernel
theorem d30_11 : DC cb30 11 (.return_) 1 := by decide +kernel
theorem ef_30_22 (m : MethodId) (x0 : Addr) (x1 : Addr) : entryFrame m #[(.ref x0), (.ref x1)] 2 = mkF m 0 #[.val (.ref x0), .val (.ref x1)] [] := by first | (simp [entryFrame, mkF, argsToLocals, Value.category]; done) | rfl
theorem rm30_0 (l : Launch) (Z : State) (a0 : Array Value) (hw : HW a0 Z) (a1 a2 a3 w5 : Addr) (k6 : ClassId) (h0 : Heap) (n0 : Nat) (OL0 : Old Z n0 h0) (pr1 : Fld Z h0 a1 s45 s11 s5 (.ref a3)) (pr2 : Fld Z h0 a3 s26 s36 "I" vi0) (pr3 : Exa Z h0 a3 s27) (pr4 : n0 ≤ a3) (pr5 : Fld Z h0 a3 s27 s12 s7 (.ref w5)) (pr6 : Fld Z h0 a3 s27 "size" "I" vi0) (pr7 : Arv Z Z.heap w5 k6 (.object s20) o0 [] .null) (pr8 : Sta Z Z.heap s27 s1 s7 (.ref w5)) (pr9 : Exa Z h0 a2 s43) :
    MF l Z mn30 prog_66_method_8_code 2 none ⟨5, 1, 10, 69⟩ #[(.ref a1), (.ref a2)] h0 (fun v h L => ∃ b7_0 : Addr, ∃ kx7_0 : ClassId, v = none ∧ Fr n0 L ∧ Keep h0 h [a3] ∧ h0.size ≤ b7_0 ∧ Fld Z h a3 s26 s36 "I" vi1 ∧ Fld Z h a3 s27 s12 s7 (.ref b7_0) ∧ Fld Z h a3 s27 "size" "I" vi1 ∧ Arv Z h b7_0 kx7_0 (.object s20) (10 : Int32) [(.ref a2), .null, .null, .null, .null, .null, .null, .null, .null, .null] .null ∧ Ovr Z kx7_0 s20 ∧ Exa Z h b7_0 s7) := by
  refine own_start (plainFor_of_name pn_7) (fun m => (ef_30_22 m a1 a2)) ?_
  intro p e s m below meth c s₁ hZ hx hy hml ho hnm hret X0 e0
  have N0 := Fr.nil n0
  obtain ⟨T4, X4, e4, st4⟩ := gF X0 hx hZ ho (wd96 hw) Via.refl e0 pr1 1 #[rv a1, rv a2] [] (hb hy d30_1)
  obtain ⟨_, T7, L7, X7, hQ7, st7⟩ := own_cI X4 hx hZ ho hml (cw20 hw) (rm31_1 l Z a0 hw a3 a2 w5 k6 h0 n0 OL0 pr2 pr3 pr4 pr5 pr6 pr7 pr8 pr9) e4 pr3 5 #[rv a1, rv a2] [(.ref a2)] [] 0 rfl (hb hy d30_5) (by decide)
  obtain ⟨b7_0, kx7_0, rfl, Nq7, K7, u7_0, u7_1, u7_2, u7_3, u7_4, u7_5, u7_6⟩ := hQ7
  have KK7 : Keep h0 T7.heap [a3] := (Keep.refl h0 [a3]).trans K7 (allS (Or.inl (List.mem_of_getElem? (i := 0) rfl)) all0)
  have sz_b7_0 : h0.size ≤ b7_0 := Nat.le_trans (Keep.refl h0 [a3]).1 u7_0
  have N7 := Fr.app N0 Nq7
  refine ⟨none, _, _, _, _, _, X7, rfl, by decide, fun _ => rfl, fun fs hr => ?_, ?_⟩
  · refine xaloadN X0 hx hy d30_0 rfl rfl ?_
    refine st4 _ ?_
    refine xaloadN X4 hx hy d30_4 rfl rfl ?_
    refine st7 _ ?_
    refine XS.pop X7.here hx rfl (hb hy d30_10) rfl rfl ?_
    show SS p e below T7 m 11 #[rv a1, rv a2] [] _
    exact X7.returnOut hx hret (hb hy d30_11) hr
  · exact ⟨b7_0, kx7_0, rfl, N7, KK7, sz_b7_0, u7_1, u7_2, u7_3, u7_4, u7_5, u7_6⟩
theorem pd_16 : parseMethodDescriptor "(Lshadowsift/core/ValueSet;)V" = some ⟨[(.object "shadowsift/core/ValueSet")], none⟩ := by decide +kernel
theorem cw22 {a0 Z} (hw : HW a0 Z) : CV a0 Z s47 41 mn30 mn30 s45 1 (.code mn30 prog_66_method_8_code 2 none) :=
  ⟨wx hw 218 rfl, wx hw 219 rfl, (fun _ hZ => notFace_of_selects (args := #[]) (mvT hZ (wd221 hw))), wx hw 221 rfl, wx hw 220 rfl, wx hw 222 rfl, wx hw 47 rfl, by decide, _, _, pd_16, rfl⟩
theorem sg136_0 (l : Launch) (Z : State) (a0 : Array Value) (hw : HW a0 Z) (p1 p2 : Int32) (q3 q4 : Int64) (p5 : Int32) (q6 q7 : Int64) (p8 p9 p10 : Int32) (a11 a12 a13 a15 : Addr) (k16 : ClassId) (a17 : Addr) (p18 : Int32) (a19 w20 : Addr) (k21 : ClassId) (h0 : Heap) (n0 : Nat) (OL0 : Old Z n0 h0) (pr1 : Fld Z h0 a13 s45 s48 "Z" vi0) (pr2 : Exa Z h0 a13 s45) (pr3 : Fld Z h0 a13 s45 "sets" s8 (.ref a15)) (pr4 : Asl Z h0 a15 k16 tV o12 p5 .null) (pr5 : n0 ≤ a15) (pr6 : Ovr Z k16 s43) (pr7 : Exa Z h0 a12 s43) (pr8 : a13 ≠ a15) (pr9 : n0 ≤ a13) (pr10 : Fld Z h0 a13 s45 s11 s5 (.ref a17)) (pr11 : Fld Z h0 a13 s45 s15 "Z" (.int p18)) (pr12 : Fld Z h0 a13 s45 s16 s5 (.ref a19)) (pr13 : a15 ≠ a13) (pr14 : Fld Z h0 a19 s26 s36 "I" vi0) (pr15 : Exa Z h0 a19 s27) (pr16 : n0 ≤ a19) (pr17 : Fld Z h0 a19 s27 s12 s7 (.ref w20)) (pr18 : Fld Z h0 a19 s27 "size" "I" vi0) (pr19 : Arv Z Z.heap w20 k21 (.object s20) o0 [] .null) (pr20 : Sta Z Z.heap s27 s1 s7 (.ref w20)) (pr21 : a13 ≠ a19) (pr22 : a15 ≠ a19) (pr23 : Fld Z h0 a17 s26 s36 "I" vi0) (pr24 : Exa Z h0 a17 s27) (pr25 : n0 ≤ a17) (pr26 : Fld Z h0 a17 s27 s12 s7 (.ref w20)) (pr27 : Fld Z h0 a17 s27 "size" "I" vi0) (pr28 : a13 ≠ a17) (pr29 : a15 ≠ a17) (pr30 : a19 ≠ a17)
    (st0 : ST Z p l e s m args below meth c T0 locs cells slots h0 n0) (hcl : cells + 3 ≤ 80) (hsl : slots + 23 ≤ 320) : SG p l e s m args below meth c T0 n0 136 (LV p1 p2 q3 q4 p5 q6 q7 p8 p9 p10 a11 a12 a13 uu uu uu) := by
  obtain ⟨hZ, hx, hy, hml, ho, hnm, hret, X0, e0, N0⟩ := st0
  have pre0 : ∀ t, SS p e below T0 m 136 (LV p1 p2 q3 q4 p5 q6 q7 p8 p9 p10 a11 a12 a13 uu uu uu) [] t → SS p e below T0 m 136 (LV p1 p2 q3 q4 p5 q6 q7 p8 p9 p10 a11 a12 a13 uu uu uu) [] t := fun _ k => k
  have pre14 : ∀ t, SS p e below T0 m 140 (LV p1 p2 q3 q4 p5 q6 q7 p8 p9 p10 a11 a12 a13 uu uu uu) [(.int (p1 &&& (8 : Int32)))] t → SS p e below T0 m 136 (LV p1 p2 q3 q4 p5 q6 q7 p8 p9 p10 a11 a12 a13 uu uu uu) [] t := by
    intro t kt
    refine pre0 _ ?_
    refine xiloadN X0 hx hy at_136 rfl ?_
    refine XS.bipush X0.here hx rfl (hb hy at_137) ?_
    refine XS.iand X0.here hx rfl (hb hy at_139) rfl ?_
    exact kt
  by_cases hf14 : (p1 &&& (8 : Int32)) = o0
  · obtain ⟨_, _, _, _, XX22, hk22, hN22, sg22⟩ := sg150_0 l Z a0 hw p1 p2 q3 q4 p5 q6 q7 p8 p9 p10 a11 a12 a13 a15 k16 a17 p18 a19 w20 k21 h0 n0 OL0 pr1 pr2 pr3 pr4 pr5 pr6 pr7 pr8 pr9 pr10 pr11 pr12 pr13 pr14 pr15 pr16 pr17 pr18 pr19 pr20 pr21 pr22 ⟨hZ, hx, hy, hml, ho, hnm, hret, X0, e0, N0⟩ (by show cells + 2 ≤ 80; omega) (by show slots + 13 ≤ 320; omega)
    refine ⟨_, _, _, _, XX22, hk22, hN22, fun fs hr => pre14 _ ?_⟩
    refine XS.ifYes X0.here hx rfl (pc0 := 140) (pc' := 150) rfl (hb hy at_140) rfl ((if0 _ _).trans (teq hf14).1) (by decide) (by decide) ?_
    exact sg22 fs hr
  · obtain ⟨_, T23, L23, X23, hQ23, st23⟩ := own_cV X0 hx hZ ho hml (cw22 hw) (rm30_0 l Z a0 hw a13 a12 a17 w20 k21 h0 n0 OL0 pr10 pr23 pr24 pr25 pr26 pr27 pr19 pr20 pr7) e0 pr2 147 (LV p1 p2 q3 q4 p5 q6 q7 p8 p9 p10 a11 a12 a13 uu uu uu) [(.ref a12)] [] 0 rfl (hb hy at_147) ⟨by decide, by decide, by show cells + 1 ≤ 80; omega, by show slots + 10 ≤ 320; omega⟩
    obtain ⟨b23_0, kx23_0, rfl, Nq23, K23, u23_0, u23_1, u23_2, u23_3, u23_4, u23_5, u23_6⟩ := hQ23
    have OL23 := OL0.keep K23 (allS pr25 all0)
    have N23 := Fr.app N0 Nq23
    have fc25 := (pr1.keep K23 (ninS pr28 nin0))
    have fc26 := (pr2.keep K23)
    have fc27 := (pr3.keep K23 (ninS pr28 nin0))
    have fc28 := (pr4.keep K23 (ninS pr29 nin0))
    have fc29 := (pr7.keep K23)
    have fc30 := (pr10.keep K23 (ninS pr28 nin0))
    have fc31 := (pr11.keep K23 (ninS pr28 nin0))
    have fc32 := (pr12.keep K23 (ninS pr28 nin0))
    have fc33 := (pr14.keep K23 (ninS pr30 nin0))
    have fc34 := (pr15.keep K23)
    have fc35 := (pr17.keep K23 (ninS pr30 nin0))
    have fc36 := (pr18.keep K23 (ninS pr30 nin0))
    obtain ⟨_, _, _, _, XX24, hk24, hN24, sg24⟩ := sg150_0 l Z a0 hw p1 p2 q3 q4 p5 q6 q7 p8 p9 p10 a11 a12 a13 a15 k16 a17 p18 a19 w20 k21 T23.heap n0 OL23 fc25 fc26 fc27 fc28 pr5 pr6 fc29 pr8 pr9 fc30 fc31 fc32 pr13 fc33 fc34 pr16 fc35 fc36 pr19 pr20 pr21 pr22 ⟨hZ, hx, hy, hml, ho, hnm, hret, X23, rfl, N23⟩ (by show cells + 1 + 2 ≤ 80; omega) (by show slots + 10 + 13 ≤ 320; omega)
    refine ⟨_, _, _, _, XX24, hk24, hN24, fun fs hr => pre14 _ ?_⟩
    refine XS.ifNo X0.here hx rfl (hb hy at_140) rfl ((if0 _ _).trans (feq hf14).1) ?_
    refine xaload X0 hx hy at_143 rfl rfl ?_
    refine xaload X0 hx hy at_145 rfl rfl ?_
    refine st23 _ ?_
    exact sg24 fs hr
theorem d44_0 : DC cb44 0 (.aload_n 0) 1 := by decide +kernel
theorem d44_1 : DC cb44 1 (.iconst 1) 1 := by decide +kernel
theorem d44_2 : DC cb44 2 (.putfield 38) 3 := by decide +kernel
theorem d44_5 : DC cb44 5 (.return_) 1 := by decide +kernel
theorem ef_44_23 (m : MethodId) (x0 : Addr) : entryFrame m #[(.ref x0)] 1 = mkF m 0 #[.val (.ref x0)] [] := by first | (simp [entryFrame, mkF, argsToLocals, Value.category]; done) | rfl
theorem rm44_0 (l : Launch) (Z : State) (a0 : Array Value) (hw : HW a0 Z) (a1 : Addr) (p2 : Int32) (a4 a6 a8 : Addr) (h0 : Heap) (n0 : Nat) (OL0 : Old Z n0 h0) (pr1 : Exa Z h0 a1 s45) (pr2 : Fld Z h0 a1 s45 s15 "Z" (.int p2)) (pr3 : n0 ≤ a1) (pr4 : Fld Z h0 a1 s45 s11 s5 (.ref a4)) (pr5 : Fld Z h0 a1 s45 s16 s5 (.ref a6)) (pr6 : Fld Z h0 a1 s45 "sets" s8 (.ref a8)) (pr7 : Fld Z h0 a1 s45 s48 "Z" vi0) :
    MF l Z mn44 prog_66_method_5_code 1 none ⟨0, 0, 0, 0⟩ #[(.ref a1)] h0 (fun v h L => v = none ∧ Fr n0 L ∧ Keep h0 h [a1] ∧ Fld Z h a1 s45 s15 "Z" vi1 ∧ Fld Z h a1 s45 s11 s5 (.ref a4) ∧ Fld Z h a1 s45 s16 s5 (.ref a6) ∧ Fld Z h a1 s45 "sets" s8 (.ref a8) ∧ Fld Z h a1 s45 s48 "Z" vi0) := by
  refine own_start (plainFor_of_name pn_7) (fun m => (ef_44_23 m a1)) ?_
  intro p e s m below meth c s₁ hZ hx hy hml ho hnm hret X0 e0
  have N0 := Fr.nil n0
  obtain ⟨T3, h3, X3, e3, W3, st3⟩ := putFN X0 hx hZ ho (wd190 hw) Via.refl e0 pr2 pr1 (Or.inl (wd191 hw)) (wd46 hw) (ty := .boolean) (v' := vi1) (by decide) rfl rfl (g := (mkF m 2 #[rv a1] [vi1, (.ref a1)])) rfl rfl (hb hy d44_2)
  have Fw3 := pr2.same W3
  have KK3 : Keep h0 h3 [a1] := (Keep.refl h0 [a1]).wr W3 (Or.inl (List.mem_of_getElem? (i := 0) rfl))
  have N3 := Fr.snoc X3 N0 pr3
  have fc5 := (pr4.other W3 (Or.inr (slot_ne (Or.inr (wd97 hw)) (Or.inl (wd191 hw)) (by decide) (t := (.object s30)) (t' := .boolean) (by decide) (by decide))))
  have fc7 := (pr5.other W3 (Or.inr (slot_ne (Or.inr (wd95 hw)) (Or.inl (wd191 hw)) (by decide) (t := (.object s30)) (t' := .boolean) (by decide) (by decide))))
  have fc9 := (pr6.other W3 (Or.inr (slot_ne (Or.inr (wd69 hw)) (Or.inl (wd191 hw)) (by decide) (t := (.array tV)) (t' := .boolean) (by decide) (by decide))))
  have fc10 := (pr7.other W3 (Or.inr (slot_ne (Or.inl (wd104 hw)) (Or.inl (wd191 hw)) (by decide) (t := .boolean) (t' := .boolean) (by decide) (by decide))))
  refine ⟨none, _, _, _, _, _, X3, e3, by decide, fun _ => rfl, fun fs hr => ?_, ?_⟩
  · refine xaloadN X0 hx hy d44_0 rfl rfl ?_
    refine XS.iconst X0.here hx rfl (hb hy d44_1) ?_
    refine st3 _ ?_
    show SS p e below T3 m 5 #[rv a1] [] _
    exact X3.returnOut hx hret (hb hy d44_5) hr
  · exact ⟨rfl, N3, KK3, Fw3, fc5, fc7, fc9, fc10⟩
theorem cw23 {a0 Z} (hw : HW a0 Z) : CV a0 Z s47 38 mn44 mn44 s45 0 (.code mn44 prog_66_method_5_code 1 none) :=
  ⟨wx hw 312 rfl, wx hw 313 rfl, (fun _ hZ => notFace_of_selects (args := #[]) (mvT hZ (wd315 hw))), wx hw 315 rfl, wx hw 314 rfl, wx hw 316 rfl, wx hw 47 rfl, by decide, _, _, pd_7, rfl⟩
theorem sg125_0 (l : Launch) (Z : State) (a0 : Array Value) (hw : HW a0 Z) (p1 p2 : Int32) (q3 q4 : Int64) (p5 : Int32) (q6 q7 : Int64) (p8 p9 p10 : Int32) (a11 a12 a13 a15 : Addr) (k16 : ClassId) (a17 : Addr) (p18 : Int32) (a19 w20 : Addr) (k21 : ClassId) (h0 : Heap) (n0 : Nat) (OL0 : Old Z n0 h0) (pr1 : Fld Z h0 a13 s45 s48 "Z" vi0) (pr2 : Exa Z h0 a13 s45) (pr3 : Fld Z h0 a13 s45 "sets" s8 (.ref a15)) (pr4 : Asl Z h0 a15 k16 tV o12 p5 .null) (pr5 : n0 ≤ a15) (pr6 : Ovr Z k16 s43) (pr7 : Exa Z h0 a12 s43) (pr8 : a13 ≠ a15) (pr9 : n0 ≤ a13) (pr10 : Fld Z h0 a13 s45 s11 s5 (.ref a17)) (pr11 : Fld Z h0 a13 s45 s15 "Z" (.int p18)) (pr12 : Fld Z h0 a13 s45 s16 s5 (.ref a19)) (pr13 : a15 ≠ a13) (pr14 : Fld Z h0 a19 s26 s36 "I" vi0) (pr15 : Exa Z h0 a19 s27) (pr16 : n0 ≤ a19) (pr17 : Fld Z h0 a19 s27 s12 s7 (.ref w20)) (pr18 : Fld Z h0 a19 s27 "size" "I" vi0) (pr19 : Arv Z Z.heap w20 k21 (.object s20) o0 [] .null) (pr20 : Sta Z Z.heap s27 s1 s7 (.ref w20)) (pr21 : a13 ≠ a19) (pr22 : a15 ≠ a19) (pr23 : Fld Z h0 a17 s26 s36 "I" vi0) (pr24 : Exa Z h0 a17 s27) (pr25 : n0 ≤ a17) (pr26 : Fld Z h0 a17 s27 s12 s7 (.ref w20)) (pr27 : Fld Z h0 a17 s27 "size" "I" vi0) (pr28 : a13 ≠ a17) (pr29 : a15 ≠ a17) (pr30 : a19 ≠ a17) (pr31 : a19 ≠ a13) (pr32 : a17 ≠ a13)
    (st0 : ST Z p l e s m args below meth c T0 locs cells slots h0 n0) (hcl : cells + 3 ≤ 80) (hsl : slots + 23 ≤ 320) : SG p l e s m args below meth c T0 n0 125 (LV p1 p2 q3 q4 p5 q6 q7 p8 p9 p10 a11 a12 a13 uu uu uu) := by
  obtain ⟨hZ, hx, hy, hml, ho, hnm, hret, X0, e0, N0⟩ := st0
  have pre0 : ∀ t, SS p e below T0 m 125 (LV p1 p2 q3 q4 p5 q6 q7 p8 p9 p10 a11 a12 a13 uu uu uu) [] t → SS p e below T0 m 125 (LV p1 p2 q3 q4 p5 q6 q7 p8 p9 p10 a11 a12 a13 uu uu uu) [] t := fun _ k => k
  have pre14 : ∀ t, SS p e below T0 m 128 (LV p1 p2 q3 q4 p5 q6 q7 p8 p9 p10 a11 a12 a13 uu uu uu) [(.int (p1 &&& (4 : Int32)))] t → SS p e below T0 m 125 (LV p1 p2 q3 q4 p5 q6 q7 p8 p9 p10 a11 a12 a13 uu uu uu) [] t := by
    intro t kt
    refine pre0 _ ?_
    refine xiloadN X0 hx hy at_125 rfl ?_
    refine XS.iconst X0.here hx rfl (hb hy at_126) ?_
    refine XS.iand X0.here hx rfl (hb hy at_127) rfl ?_
    exact kt
  by_cases hf14 : (p1 &&& (4 : Int32)) = o0
  · obtain ⟨_, _, _, _, XX22, hk22, hN22, sg22⟩ := sg136_0 l Z a0 hw p1 p2 q3 q4 p5 q6 q7 p8 p9 p10 a11 a12 a13 a15 k16 a17 p18 a19 w20 k21 h0 n0 OL0 pr1 pr2 pr3 pr4 pr5 pr6 pr7 pr8 pr9 pr10 pr11 pr12 pr13 pr14 pr15 pr16 pr17 pr18 pr19 pr20 pr21 pr22 pr23 pr24 pr25 pr26 pr27 pr28 pr29 pr30 ⟨hZ, hx, hy, hml, ho, hnm, hret, X0, e0, N0⟩ (by show cells + 3 ≤ 80; omega) (by show slots + 23 ≤ 320; omega)
    refine ⟨_, _, _, _, XX22, hk22, hN22, fun fs hr => pre14 _ ?_⟩
    refine XS.ifYes X0.here hx rfl (pc0 := 128) (pc' := 136) rfl (hb hy at_128) rfl ((if0 _ _).trans (teq hf14).1) (by decide) (by decide) ?_
    exact sg22 fs hr
  · obtain ⟨_, T23, L23, X23, hQ23, st23⟩ := own_cV X0 hx hZ ho hml (cw23 hw) (rm44_0 l Z a0 hw a13 p18 a17 a19 a15 h0 n0 OL0 pr2 pr11 pr9 pr10 pr12 pr3 pr1) e0 pr2 133 (LV p1 p2 q3 q4 p5 q6 q7 p8 p9 p10 a11 a12 a13 uu uu uu) [] [] 0 rfl (hb hy at_133) ⟨by decide, by decide, by show cells + 0 ≤ 80; omega, by show slots + 0 ≤ 320; omega⟩
    obtain ⟨rfl, Nq23, K23, u23_0, u23_1, u23_2, u23_3, u23_4⟩ := hQ23
    have OL23 := OL0.keep K23 (allS pr9 all0)
    have N23 := Fr.app N0 Nq23
    have fc25 := (pr2.keep K23)
    have fc26 := (pr4.keep K23 (ninS pr13 nin0))
    have fc27 := (pr7.keep K23)
    have fc28 := (pr14.keep K23 (ninS pr31 nin0))
    have fc29 := (pr15.keep K23)
    have fc30 := (pr17.keep K23 (ninS pr31 nin0))
    have fc31 := (pr18.keep K23 (ninS pr31 nin0))
    have fc32 := (pr23.keep K23 (ninS pr32 nin0))
    have fc33 := (pr24.keep K23)
    have fc34 := (pr26.keep K23 (ninS pr32 nin0))
    have fc35 := (pr27.keep K23 (ninS pr32 nin0))
    obtain ⟨_, _, _, _, XX24, hk24, hN24, sg24⟩ := sg136_0 l Z a0 hw p1 p2 q3 q4 p5 q6 q7 p8 p9 p10 a11 a12 a13 a15 k16 a17 o1 a19 w20 k21 T23.heap n0 OL23 u23_4 fc25 u23_3 fc26 pr5 pr6 fc27 pr8 pr9 u23_1 u23_0 u23_2 pr13 fc28 fc29 pr16 fc30 fc31 pr19 pr20 pr21 pr22 fc32 fc33 pr25 fc34 fc35 pr28 pr29 pr30 ⟨hZ, hx, hy, hml, ho, hnm, hret, X23, rfl, N23⟩ (by show cells + 0 + 3 ≤ 80; omega) (by show slots + 0 + 23 ≤ 320; omega)
    refine ⟨_, _, _, _, XX24, hk24, hN24, fun fs hr => pre14 _ ?_⟩
    refine XS.ifNo X0.here hx rfl (hb hy at_128) rfl ((if0 _ _).trans (feq hf14).1) ?_
    refine xaload X0 hx hy at_131 rfl rfl ?_
    refine st23 _ ?_
    exact sg24 fs hr
theorem d14_0 : DC cb14 0 (.getstatic 7) 3 := by decide +kernel
theorem d14_3 : DC cb14 3 (.iload_n 1) 1 := by decide +kernel
theorem d14_4 : DC cb14 4 (.invokeinterface 59 2) 5 := by decide +kernel
theorem d15_0 : DC cb15 0 (.aload_n 0) 1 := by decide +kernel
theorem d15_1 : DC cb15 1 (.getfield 7) 3 := by decide +kernel
theorem d15_4 : DC cb15 4 (.iload_n 1) 1 := by decide +kernel
theorem d15_5 : DC cb15 5 (.aaload) 1 := by decide +kernel
theorem d15_6 : DC cb15 6 (.areturn) 1 := by decide +kernel
theorem ef_15_24 (m : MethodId) (x0 : Addr) (x1 : Int32) : entryFrame m #[(.ref x0), (.int x1)] 2 = mkF m 0 #[.val (.ref x0), .val (.int x1)] [] := by first | (simp [entryFrame, mkF, argsToLocals, Value.category]; done) | rfl
theorem rm15_0 (l : Launch) (Z : State) (a0 : Array Value) (hw : HW a0 Z) (w1 : Addr) (p2 : Int32) (w3 w5 : Addr) (k6 : ClassId) (h0 : Heap) (n0 : Nat) (OL0 : Old Z n0 h0) (pr1 : Fld Z Z.heap w1 s29 s13 s7 (.ref w3)) (pr2 : Asl Z Z.heap w3 k6 (.object s20) o12 p2 (.ref w5)) :
    MF l Z mn15 jdk_45_method_4_code 2 (some (.object s20)) ⟨0, 0, 0, 0⟩ #[(.ref w1), (.int p2)] h0 (QR n0 h0 (some (.ref w5))) := by
  refine own_start (plainFor_of_name pn_3) (fun m => (ef_15_24 m w1 p2)) ?_
  intro p e s m below meth c s₁ hZ hx hy hml ho hnm hret X0 e0
  have N0 := Fr.nil n0
  obtain ⟨T4, X4, e4, st4⟩ := gF X0 hx hZ ho (wd64 hw) Via.refl e0 (pr1.ext OL0.2) 1 #[rv w1, iv p2] [] (hb hy d15_1)
  refine ⟨some (.ref w5), _, _, _, _, _, X4, e4, by decide, nofun, fun fs hr => ?_, ?_⟩
  · refine xaloadN X0 hx hy d15_0 rfl rfl ?_
    refine st4 _ ?_
    refine xiloadN X4 hx hy d15_4 rfl ?_
    refine own_lA X4 hx hZ e4 (pr2.ext OL0.2) rfl (hb hy d15_5) ?_
    show SS p e below T4 m 6 #[rv w1, iv p2] [(.ref w5)] _
    exact own_retR X4 hx hret rfl rfl rfl (hb hy d15_6) hr
  · exact ⟨rfl, N0, rfl⟩
theorem pd_17 : parseMethodDescriptor "(I)Ljava/lang/Object;" = some ⟨[.int], some (.object "java/lang/Object")⟩ := by decide +kernel
theorem cw24 {a0 Z} (hw : HW a0 Z) : CI a0 Z s45 59 (⟨s30, "get", "(I)Ljava/lang/Object;"⟩ : MethodName) mn15 s29 1 (.code mn15 jdk_45_method_4_code 2 (some (.object s20))) :=
  ⟨wx hw 110 rfl, wx hw 111 rfl, ⟨wx hw 112 rfl, by first | rfl | simp [Cond.onTables, Cond.keepsFace, Cond.keeps, Cond.steady]⟩, wx hw 113 rfl, wx hw 114 rfl, wx hw 115 rfl, wx hw 116 rfl, wx hw 61 rfl, wx hw 117 rfl, wx hw 62 rfl, by decide, _, _, pd_17, rfl⟩
theorem d14_9 : DC cb14 9 (.checkcast 63) 3 := by decide +kernel
theorem d14_12 : DC cb14 12 (.invokevirtual 65) 3 := by decide +kernel
theorem d16_0 : DC cb16 0 (.aload_n 0) 1 := by decide +kernel
theorem d16_1 : DC cb16 1 (.getfield 35) 3 := by decide +kernel
theorem d16_4 : DC cb16 4 (.aload_n 0) 1 := by decide +kernel
theorem d16_5 : DC cb16 5 (.getfield 39) 3 := by decide +kernel
theorem d16_8 : DC cb16 8 (.invokestatic 58) 3 := by decide +kernel
theorem ef_6_25 (m : MethodId) (x1 : Int64) : entryFrame m #[(.long (0 : Int64)), (.long x1)] 4 = mkF m 0 #[.val (.long (0 : Int64)), .second, .val (.long x1), .second] [] := by first | (simp [entryFrame, mkF, argsToLocals, Value.category]; done) | rfl
theorem rm6_1 (l : Launch) (Z : State) (a0 : Array Value) (hw : HW a0 Z) (q1 : Int64) (h0 : Heap) (n0 : Nat) (OL0 : Old Z n0 h0) (pr1 : ¬ (q1 < oj0)) (pr2 : ¬ ((281474976710656 : Int64) < q1)) :
    MF l Z mn6 prog_63_method_2_code 4 (some tV) ⟨2, 3, 4, 27⟩ #[lj0, (.long q1)] h0 (fun v h L => ∃ b2 b3 b6 : Addr, ∃ k3 : ClassId, ∃ k6 : ClassId, v = some (.ref b2) ∧ Fr n0 L ∧ Keep h0 h [] ∧ h0.size ≤ b2 ∧ h0.size ≤ b3 ∧ h0.size ≤ b6 ∧ b2 ≠ b3 ∧ b2 ≠ b6 ∧ b3 ≠ b6 ∧ Exa Z h b2 s43 ∧ Fld Z h b2 s43 "lows" "[J" (.ref b3) ∧ Fld Z h b2 s43 "highs" "[J" (.ref b6) ∧ Arv Z h b3 k3 .long o1 [lj0] lj0 ∧ Exa Z h b3 "[J" ∧ Arv Z h b6 k6 .long o1 [(.long q1)] lj0 ∧ Exa Z h b6 "[J") := by
  refine own_start (plainFor_of_name pn_2) (fun m => (ef_6_25 m q1)) ?_
  intro p e s m below meth c s₁ hZ hx hy hml ho hnm hret X0 e0
  have N0 := Fr.nil n0
  obtain ⟨T2, h2, X2, e2, E2, A2, D2, -, st2⟩ := newO X0 hx hZ ho (wd34 hw) (wd35 hw) (wd31 hw) e0 (g := (mkF m 35 #[jv oj0, sc, jv q1, sc] [])) rfl (hb hy d6_35) (by decide) (by decide)
  obtain ⟨b2, g2⟩ : ∃ z, z = h0.size := ⟨_, rfl⟩
  rw [← g2] at A2 D2 st2
  have g_b2 : n0 ≤ b2 := (Nat.le_trans (Nat.le_trans (Nat.le_of_eq OL0.1.symm) OL0.2.1) (Nat.le_of_eq g2.symm))
  have sz_b2 : h0.size ≤ b2 := (Nat.le_trans (Keep.refl h0 []).1 (Nat.le_of_eq g2.symm))
  have KK2 : Keep h0 h2 [] := (Keep.refl h0 []).ext E2
  have OL2 := OL0.ext E2
  have F_lows_b2 : Fld Z h2 b2 s43 "lows" "[J" .null := D2 (Or.inr (wd42 hw)) (ty := (.array .long)) (by decide)
  have F_highs_b2 : Fld Z h2 b2 s43 "highs" "[J" .null := D2 (Or.inr (wd44 hw)) (ty := (.array .long)) (by decide)
  obtain ⟨T3, h3, k3, X3, e3, E3, A3, AE3, st3⟩ := newPE (aty := .long) (ad := "[J") X2 hx hZ (wd36 hw) e2 (g := (mkF m 40 #[jv oj0, sc, jv q1, sc] [vi1, (.ref b2), (.ref b2)])) rfl (hb hy d6_40) rfl (by decide) (cap := 1) (by decide) (by decide) (by decide) (by decide) (by decide)
  obtain ⟨b3, g3⟩ : ∃ z, z = h2.size := ⟨_, rfl⟩
  rw [← g3] at A3 AE3 st3
  have V3 : Arv Z h3 b3 k3 .long o1 [lj0] lj0 := (Arv.new A3 (by decide)).pad (pad_rep [] lj0 1)
  have g_b3 : n0 ≤ b3 := (Nat.le_trans (Nat.le_trans (Nat.le_of_eq OL2.1.symm) OL2.2.1) (Nat.le_of_eq g3.symm))
  have sz_b3 : h0.size ≤ b3 := (Nat.le_trans KK2.1 (Nat.le_of_eq g3.symm))
  have KK3 : Keep h0 h3 [] := KK2.ext E3
  have OL3 := OL2.ext E3
  obtain ⟨T5, h5, X5, e5, W5, VV5, st5⟩ := own_sJ X3 hx hZ e3 V3 o0 (by decide) 0 oj0 [(.ref b3), (.ref b2), (.ref b2)] 45 #[jv oj0, sc, jv q1, sc] (hb hy d6_45) rfl (Nat.le_of_ble_eq_true rfl)
  have V5 : Arv Z h5 b3 k3 .long o1 [lj0] lj0 := VV5
  have KK5 : Keep h0 h5 [] := KK3.wr W5 (Or.inr sz_b3)
  have OL5 := OL3.wr W5 g_b3
  have N5 := Fr.snoc X5 N0 g_b3
  obtain ⟨T6, h6, k6, X6, e6, E6, A6, AE6, st6⟩ := newPE (aty := .long) (ad := "[J") X5 hx hZ (wd36 hw) e5 (g := (mkF m 47 #[jv oj0, sc, jv q1, sc] [vi1, (.ref b3), (.ref b2), (.ref b2)])) rfl (hb hy d6_47) rfl (by decide) (cap := 1) (by decide) (by decide) (by decide) (by decide) (by decide)
  obtain ⟨b6, g6⟩ : ∃ z, z = h5.size := ⟨_, rfl⟩
  rw [← g6] at A6 AE6 st6
  have V6 : Arv Z h6 b6 k6 .long o1 [lj0] lj0 := (Arv.new A6 (by decide)).pad (pad_rep [] lj0 1)
  have g_b6 : n0 ≤ b6 := (Nat.le_trans (Nat.le_trans (Nat.le_of_eq OL5.1.symm) OL5.2.1) (Nat.le_of_eq g6.symm))
  have sz_b6 : h0.size ≤ b6 := (Nat.le_trans KK5.1 (Nat.le_of_eq g6.symm))
  have KK6 : Keep h0 h6 [] := KK5.ext E6
  have OL6 := OL5.ext E6
  obtain ⟨T8, h8, X8, e8, W8, VV8, st8⟩ := own_sJ X6 hx hZ e6 V6 o0 (by decide) 0 q1 [(.ref b6), (.ref b3), (.ref b2), (.ref b2)] 52 #[jv oj0, sc, jv q1, sc] (hb hy d6_52) rfl (Nat.le_of_ble_eq_true rfl)
  have V8 : Arv Z h8 b6 k6 .long o1 [(.long q1)] lj0 := VV8
  have KK8 : Keep h0 h8 [] := KK6.wr W8 (Or.inr sz_b6)
  have OL8 := OL6.wr W8 g_b6
  have N8 := Fr.snoc X8 N5 g_b6
  have fc10 := ((((A2.ext E3).wr W5).ext E6).wr W8)
  have nz11 := (nl F_lows_b2.lt (Nat.le_of_eq g3.symm))
  have lz12 := (lq (lq F_lows_b2.lt E3.1) (Nat.le_of_eq W5.size.symm))
  have nz13 := (nl lz12 (Nat.le_of_eq g6.symm))
  have fc14 := ((((F_lows_b2.ext E3).other W5 (Or.inl nz11)).ext E6).other W8 (Or.inl nz13))
  have fc15 := ((((F_highs_b2.ext E3).other W5 (Or.inl nz11)).ext E6).other W8 (Or.inl nz13))
  obtain ⟨_, T9, L9, X9, hQ9, st9⟩ := own_cN X8 hx hZ ho hml (cw4 hw) (rm7_0 l Z a0 hw b2 b3 b6 h8 n0 OL8 fc10 fc14 g_b2 fc15) e8 b2 53 #[jv oj0, sc, jv q1, sc] [(.ref b3), (.ref b6)] [(.ref b2)] 1 rfl (hb hy d6_53) (by decide)
  obtain ⟨rfl, Nq9, K9, u9_0, u9_1⟩ := hQ9
  have KK9 : Keep h0 T9.heap [] := KK8.trans K9 (allS (Or.inr sz_b2) all0)
  have N9 := Fr.app N8 Nq9
  have nz16 := (nl V5.lt (Nat.le_of_eq g6.symm))
  have fc17 := (fc10.keep K9)
  have fc18 := (((V5.ext E6).other W8 nz16).keep K9 (ninS (Ne.symm nz11) nin0))
  have fc19 := ((((AE3.wr W5).ext E6).wr W8).keep K9)
  have fc20 := (V8.keep K9 (ninS (Ne.symm nz13) nin0))
  have fc21 := ((AE6.wr W8).keep K9)
  refine ⟨some (.ref b2), _, _, _, _, _, X9, rfl, by decide, nofun, fun fs hr => ?_, ?_⟩
  · refine xlloadN X0 hx hy d6_0 rfl ?_
    refine XS.lconst X0.here hx rfl (hb hy d6_1) ?_
    refine XS.lcmp X0.here hx rfl (hb hy d6_2) rfl ?_
    refine XS.ifNo X0.here hx rfl (hb hy d6_3) rfl ((if0 _ _).trans (flt (by decide : ¬ (o0 < o0))).1) ?_
    refine xlloadN X0 hx hy d6_6 rfl ?_
    refine xlloadN X0 hx hy d6_7 rfl ?_
    refine XS.lcmp X0.here hx rfl (hb hy d6_8) rfl ?_
    refine XS.ifNo X0.here hx rfl (hb hy d6_9) rfl ((if0 _ _).trans (flt ((fun z => pr1 ((lw_gt oj0 q1).mp z)) : ¬ (o0 < (lcmpW oj0 q1)))).2.2.1) ?_
    refine xlloadN X0 hx hy d6_12 rfl ?_
    refine X0.ldc2Long hx ho (mvT hZ (wd33 hw)) (g := (mkF m 13 #[jv oj0, sc, jv q1, sc] [(.long q1)])) rfl (hb hy d6_13) _ ?_
    refine XS.lcmp X0.here hx rfl (hb hy d6_16) rfl ?_
    refine XS.ifYes X0.here hx rfl (pc0 := 17) (pc' := 35) rfl (hb hy d6_17) rfl ((if0 _ _).trans (flt ((fun z => pr2 ((lw_gt q1 (281474976710656 : Int64)).mp z)) : ¬ (o0 < (lcmpW q1 (281474976710656 : Int64))))).2.2.2) (by decide) (by decide) ?_
    refine st2 _ ?_
    refine XS.dup X2.here hx rfl (hb hy d6_38) rfl rfl ?_
    refine XS.iconst X2.here hx rfl (hb hy d6_39) ?_
    refine st3 _ ?_
    refine XS.dup X3.here hx rfl (hb hy d6_42) rfl rfl ?_
    refine XS.iconst X3.here hx rfl (hb hy d6_43) ?_
    refine xlloadN X3 hx hy d6_44 rfl ?_
    refine st5 _ ?_
    refine XS.iconst X5.here hx rfl (hb hy d6_46) ?_
    refine st6 _ ?_
    refine XS.dup X6.here hx rfl (hb hy d6_49) rfl rfl ?_
    refine XS.iconst X6.here hx rfl (hb hy d6_50) ?_
    refine xlloadN X6 hx hy d6_51 rfl ?_
    refine st8 _ ?_
    refine st9 _ ?_
    show SS p e below T9 m 56 #[jv oj0, sc, jv q1, sc] [(.ref b2)] _
    exact own_retR X9 hx hret rfl rfl rfl (hb hy d6_56) hr
  · exact ⟨b2, b3, b6, k3, k6, rfl, N9, KK9, sz_b2, sz_b3, sz_b6, nz11, nz13, nz16, fc17, u9_0, u9_1, fc18, fc19, fc20, fc21⟩
theorem cw25 {a0 Z} (hw : HW a0 Z) : CS a0 Z s42 58 mn6 2 (.code mn6 prog_63_method_2_code 4 (some (.object s43))) :=
  ⟨wx hw 130 rfl, wx hw 30 rfl, wx hw 32 rfl, wx hw 31 rfl, by decide, _, _, pd_5, rfl⟩
theorem d16_11 : DC cb16 11 (.areturn) 1 := by decide +kernel
theorem ef_16_26 (m : MethodId) (x0 : Addr) : entryFrame m #[(.ref x0)] 1 = mkF m 0 #[.val (.ref x0)] [] := by first | (simp [entryFrame, mkF, argsToLocals, Value.category]; done) | rfl
theorem pn_10 : plainName "shadowsift/core/Field" = true := by first | (simp [plainName, overriddenIn]; done) | decide +kernel
theorem rm16_0 (l : Launch) (Z : State) (a0 : Array Value) (hw : HW a0 Z) (w1 : Addr) (q3 : Int64) (h0 : Heap) (n0 : Nat) (OL0 : Old Z n0 h0) (pr1 : Fld Z Z.heap w1 s42 "low" "J" lj0) (pr2 : Fld Z Z.heap w1 s42 "high" "J" (.long q3)) (pr3 : ¬ (q3 < oj0)) (pr4 : ¬ ((281474976710656 : Int64) < q3)) :
    MF l Z mn16 prog_42_method_4_code 1 (some tV) ⟨3, 3, 4, 42⟩ #[(.ref w1)] h0 (fun v h L => ∃ b5_0 b5_1 b5_2 : Addr, ∃ kx5_0 : ClassId, ∃ kx5_1 : ClassId, v = some (.ref b5_0) ∧ Fr n0 L ∧ Keep h0 h [] ∧ h0.size ≤ b5_0 ∧ h0.size ≤ b5_1 ∧ h0.size ≤ b5_2 ∧ b5_0 ≠ b5_1 ∧ b5_0 ≠ b5_2 ∧ b5_1 ≠ b5_2 ∧ Exa Z h b5_0 s43 ∧ Fld Z h b5_0 s43 "lows" "[J" (.ref b5_1) ∧ Fld Z h b5_0 s43 "highs" "[J" (.ref b5_2) ∧ Arv Z h b5_1 kx5_0 .long o1 [lj0] lj0 ∧ Exa Z h b5_1 "[J" ∧ Arv Z h b5_2 kx5_1 .long o1 [(.long q3)] lj0 ∧ Exa Z h b5_2 "[J") := by
  refine own_start (plainFor_of_name pn_10) (fun m => (ef_16_26 m w1)) ?_
  intro p e s m below meth c s₁ hZ hx hy hml ho hnm hret X0 e0
  have N0 := Fr.nil n0
  obtain ⟨T2, X2, e2, st2⟩ := gF X0 hx hZ ho (wd126 hw) Via.refl e0 (pr1.ext OL0.2) 1 #[rv w1] [] (hb hy d16_1)
  obtain ⟨T4, X4, e4, st4⟩ := gF X2 hx hZ ho (wd128 hw) Via.refl e2 (pr2.ext OL0.2) 5 #[rv w1] [lj0] (hb hy d16_5)
  obtain ⟨_, T5, L5, X5, hQ5, st5⟩ := own_cS X4 hx hZ ho hml (cw25 hw) (rm6_1 l Z a0 hw q3 h0 n0 OL0 pr3 pr4) e4 8 #[rv w1] [lj0, (.long q3)] [] 0 rfl (hb hy d16_8) (by decide)
  obtain ⟨b5_0, b5_1, b5_2, kx5_0, kx5_1, rfl, Nq5, K5, u5_0, u5_1, u5_2, u5_3, u5_4, u5_5, u5_6, u5_7, u5_8, u5_9, u5_10, u5_11, u5_12⟩ := hQ5
  have KK5 : Keep h0 T5.heap [] := (Keep.refl h0 []).trans K5 all0
  have sz_b5_0 : h0.size ≤ b5_0 := Nat.le_trans (Keep.refl h0 []).1 u5_0
  have sz_b5_1 : h0.size ≤ b5_1 := Nat.le_trans (Keep.refl h0 []).1 u5_1
  have sz_b5_2 : h0.size ≤ b5_2 := Nat.le_trans (Keep.refl h0 []).1 u5_2
  have N5 := Fr.app N0 Nq5
  refine ⟨some (.ref b5_0), _, _, _, _, _, X5, rfl, by decide, nofun, fun fs hr => ?_, ?_⟩
  · refine xaloadN X0 hx hy d16_0 rfl rfl ?_
    refine st2 _ ?_
    refine xaloadN X2 hx hy d16_4 rfl rfl ?_
    refine st4 _ ?_
    refine st5 _ ?_
    show SS p e below T5 m 11 #[rv w1] [(.ref b5_0)] _
    exact own_retR X5 hx hret rfl rfl rfl (hb hy d16_11) hr
  · exact ⟨b5_0, b5_1, b5_2, kx5_0, kx5_1, rfl, N5, KK5, sz_b5_0, sz_b5_1, sz_b5_2, u5_3, u5_4, u5_5, u5_6, u5_7, u5_8, u5_9, u5_10, u5_11, u5_12⟩
theorem pd_18 : parseMethodDescriptor "()Lshadowsift/core/ValueSet;" = some ⟨[], some (.object "shadowsift/core/ValueSet")⟩ := by decide +kernel
theorem cw26 {a0 Z} (hw : HW a0 Z) : CV a0 Z s45 65 mn16 mn16 s42 0 (.code mn16 prog_42_method_4_code 1 (some (.object s43))) :=
  ⟨wx hw 120 rfl, wx hw 121 rfl, (fun _ hZ => notFace_of_selects (args := #[]) (mvT hZ (wd123 hw))), wx hw 123 rfl, wx hw 122 rfl, wx hw 125 rfl, wx hw 124 rfl, by decide, _, _, pd_18, rfl⟩
theorem d14_15 : DC cb14 15 (.aload_n 2) 1 := by decide +kernel
theorem d14_16 : DC cb14 16 (.invokevirtual 69) 3 := by decide +kernel
theorem d17_0 : DC cb17 0 (.new 97) 3 := by decide +kernel
theorem d17_3 : DC cb17 3 (.dup) 1 := by decide +kernel
theorem d17_4 : DC cb17 4 (.aload_n 0) 1 := by decide +kernel
theorem d17_5 : DC cb17 5 (.getfield 7) 3 := by decide +kernel
theorem d17_8 : DC cb17 8 (.arraylength) 1 := by decide +kernel
theorem d17_9 : DC cb17 9 (.aload_n 1) 1 := by decide +kernel
theorem d17_10 : DC cb17 10 (.getfield 7) 3 := by decide +kernel
theorem d17_13 : DC cb17 13 (.arraylength) 1 := by decide +kernel
theorem d17_14 : DC cb17 14 (.iadd) 1 := by decide +kernel
theorem d17_15 : DC cb17 15 (.invokespecial 99) 3 := by decide +kernel
theorem d18_0 : DC cb18 0 (.aload_n 0) 1 := by decide +kernel
theorem d18_1 : DC cb18 1 (.invokespecial 1) 3 := by decide +kernel
theorem d18_4 : DC cb18 4 (.aload_n 0) 1 := by decide +kernel
theorem d18_5 : DC cb18 5 (.iload_n 1) 1 := by decide +kernel
theorem d18_6 : DC cb18 6 (.newarray .long) 2 := by decide +kernel
theorem d18_8 : DC cb18 8 (.putfield 7) 3 := by decide +kernel
theorem d18_11 : DC cb18 11 (.aload_n 0) 1 := by decide +kernel
theorem d18_12 : DC cb18 12 (.iload_n 1) 1 := by decide +kernel
theorem d18_13 : DC cb18 13 (.newarray .long) 2 := by decide +kernel
theorem d18_15 : DC cb18 15 (.putfield 13) 3 := by decide +kernel
theorem d18_18 : DC cb18 18 (.return_) 1 := by decide +kernel
theorem ef_18_27 (m : MethodId) (x0 : Addr) : entryFrame m #[(.ref x0), (.int (2 : Int32))] 2 = mkF m 0 #[.val (.ref x0), .val (.int (2 : Int32))] [] := by first | (simp [entryFrame, mkF, argsToLocals, Value.category]; done) | rfl
theorem pn_11 : plainName "shadowsift/core/ValueSet$Builder" = true := by first | (simp [plainName, overriddenIn]; done) | decide +kernel
theorem rm18_0 (l : Launch) (Z : State) (a0 : Array Value) (hw : HW a0 Z) (a1 : Addr) (h0 : Heap) (n0 : Nat) (OL0 : Old Z n0 h0) (pr1 : Exa Z h0 a1 s44) (pr2 : Fld Z h0 a1 s44 "lows" "[J" .null) (pr3 : n0 ≤ a1) (pr4 : Fld Z h0 a1 s44 "highs" "[J" .null) (pr5 : Fld Z h0 a1 s44 "count" "I" vi0) :
    MF l Z mn18 prog_64_method_1_code 2 none ⟨1, 2, 4, 12⟩ #[(.ref a1), (.int o2)] h0 (fun v h L => ∃ b3 b7 : Addr, ∃ k3 : ClassId, ∃ k7 : ClassId, v = none ∧ Fr n0 L ∧ Keep h0 h [a1] ∧ h0.size ≤ b3 ∧ h0.size ≤ b7 ∧ b3 ≠ b7 ∧ Fld Z h a1 s44 "lows" "[J" (.ref b3) ∧ Fld Z h a1 s44 "highs" "[J" (.ref b7) ∧ Fld Z h a1 s44 "count" "I" vi0 ∧ Arv Z h b3 k3 .long o2 [lj0, lj0] lj0 ∧ Exa Z h b3 "[J" ∧ Arv Z h b7 k7 .long o2 [lj0, lj0] lj0 ∧ Exa Z h b7 "[J") := by
  refine own_start (plainFor_of_name pn_11) (fun m => (ef_18_27 m a1)) ?_
  intro p e s m below meth c s₁ hZ hx hy hml ho hnm hret X0 e0
  have N0 := Fr.nil n0
  obtain ⟨T2, X2, e2, st2⟩ := initO X0 hx hZ ho (wd142 hw) (wd23 hw) (wd24 hw) e0 (g := (mkF m 1 #[rv a1, iv o2] [(.ref a1)])) rfl (by rw [hml]; rfl) rfl (hb hy d18_1) (by decide) (W := 0) (by show 2 * 0 + _ ≤ _; exact Nat.le_of_eq rfl) (by decide)
  obtain ⟨T3, h3, k3, X3, e3, E3, A3, AE3, st3⟩ := newPE (aty := .long) (ad := "[J") X2 hx hZ (wd36 hw) e2 (g := (mkF m 6 #[rv a1, iv o2] [(.int o2), (.ref a1)])) rfl (hb hy d18_6) rfl (by decide) (cap := 2) (by decide) (by decide) (by decide) (by decide) (by decide)
  obtain ⟨b3, g3⟩ : ∃ z, z = h0.size := ⟨_, rfl⟩
  rw [← g3] at A3 AE3 st3
  have V3 : Arv Z h3 b3 k3 .long o2 [lj0, lj0] lj0 := (Arv.new A3 (by decide)).pad (pad_rep [] lj0 2)
  have sz_b3 : h0.size ≤ b3 := (Nat.le_trans (Keep.refl h0 [a1]).1 (Nat.le_of_eq g3.symm))
  have KK3 : Keep h0 h3 [a1] := (Keep.refl h0 [a1]).ext E3
  have fc4 := (pr1.ext E3)
  have fc5 := (pr2.ext E3)
  obtain ⟨T6, h6, X6, e6, W6, st6⟩ := putF X3 hx hZ ho (host := "") (Or.inl (wd143 hw)) Via.refl e3 fc5 fc4 (Or.inr ⟨(wd144 hw), rfl, hnm⟩) (wd137 hw) (ty := (.array .long)) (by decide) rfl rfl (g := (mkF m 8 #[rv a1, iv o2] [(.ref b3), (.ref a1)])) rfl rfl (hb hy d18_8)
  have Fw6 := fc5.same W6
  have KK6 : Keep h0 h6 [a1] := KK3.wr W6 (Or.inl (List.mem_of_getElem? (i := 0) rfl))
  have N6 := Fr.snoc X6 N0 pr3
  obtain ⟨T7, h7, k7, X7, e7, E7, A7, AE7, st7⟩ := newPE (aty := .long) (ad := "[J") X6 hx hZ (wd36 hw) e6 (g := (mkF m 13 #[rv a1, iv o2] [(.int o2), (.ref a1)])) rfl (hb hy d18_13) rfl (by decide) (cap := 2) (by decide) (by decide) (by decide) (by decide) (by decide)
  obtain ⟨b7, g7⟩ : ∃ z, z = h6.size := ⟨_, rfl⟩
  rw [← g7] at A7 AE7 st7
  have V7 : Arv Z h7 b7 k7 .long o2 [lj0, lj0] lj0 := (Arv.new A7 (by decide)).pad (pad_rep [] lj0 2)
  have sz_b7 : h0.size ≤ b7 := (Nat.le_trans KK6.1 (Nat.le_of_eq g7.symm))
  have KK7 : Keep h0 h7 [a1] := KK6.ext E7
  have fc8 := ((fc4.wr W6).ext E7)
  have fc9 := (((pr4.ext E3).other W6 (Or.inr (slot_ne (Or.inr (wd146 hw)) (Or.inr (wd144 hw)) (by decide) (t := (.array .long)) (t' := (.array .long)) (by decide) (by decide)))).ext E7)
  obtain ⟨T10, h10, X10, e10, W10, st10⟩ := putF X7 hx hZ ho (host := "") (Or.inl (wd145 hw)) Via.refl e7 fc9 fc8 (Or.inr ⟨(wd146 hw), rfl, hnm⟩) (wd137 hw) (ty := (.array .long)) (by decide) rfl rfl (g := (mkF m 15 #[rv a1, iv o2] [(.ref b7), (.ref a1)])) rfl rfl (hb hy d18_15)
  have Fw10 := fc9.same W10
  have KK10 : Keep h0 h10 [a1] := KK7.wr W10 (Or.inl (List.mem_of_getElem? (i := 0) rfl))
  have N10 := Fr.snoc X10 N6 pr3
  have fc11 := ((((pr5.ext E3).other W6 (Or.inr (slot_ne (Or.inl (wd153 hw)) (Or.inr (wd144 hw)) (by decide) (t := .int) (t' := (.array .long)) (by decide) (by decide)))).ext E7).other W10 (Or.inr (slot_ne (Or.inl (wd153 hw)) (Or.inr (wd146 hw)) (by decide) (t := .int) (t' := (.array .long)) (by decide) (by decide))))
  have fc12 := ((Fw6.ext E7).other W10 (Or.inr (slot_ne (Or.inr (wd144 hw)) (Or.inr (wd146 hw)) (by decide) (t := (.array .long)) (t' := (.array .long)) (by decide) (by decide))))
  have lz13 := (lq V3.lt (Nat.le_of_eq W6.size.symm))
  have nz14 := (nl lz13 (Nat.le_of_eq g7.symm))
  have nz15 := nl pr5.lt sz_b3
  have fc16 := (((V3.other W6 (Ne.symm nz15)).ext E7).other W10 (Ne.symm nz15))
  have fc17 := (((AE3.wr W6).ext E7).wr W10)
  have nz18 := nl pr5.lt sz_b7
  have fc19 := (V7.other W10 (Ne.symm nz18))
  have fc20 := (AE7.wr W10)
  refine ⟨none, _, _, _, _, _, X10, e10, by decide, fun _ => rfl, fun fs hr => ?_, ?_⟩
  · refine xaloadN X0 hx hy d18_0 rfl rfl ?_
    refine st2 _ ?_
    refine xaloadN X2 hx hy d18_4 rfl rfl ?_
    refine xiloadN X2 hx hy d18_5 rfl ?_
    refine st3 _ ?_
    refine st6 _ ?_
    refine xaloadN X6 hx hy d18_11 rfl rfl ?_
    refine xiloadN X6 hx hy d18_12 rfl ?_
    refine st7 _ ?_
    refine st10 _ ?_
    show SS p e below T10 m 18 #[rv a1, iv o2] [] _
    exact X10.returnOut hx hret (hb hy d18_18) hr
  · exact ⟨b3, b7, k3, k7, rfl, N10, KK10, sz_b3, sz_b7, nz14, fc12, Fw10, fc11, fc16, fc17, fc19, fc20⟩
theorem pd_19 : parseMethodDescriptor "(I)V" = some ⟨[.int], none⟩ := by decide +kernel
theorem cw27 {a0 Z} (hw : HW a0 Z) : CN a0 Z s43 99 mn18 1 (.code mn18 prog_64_method_1_code 2 none) :=
  ⟨rfl, wx hw 139 rfl, wx hw 140 rfl, wx hw 141 rfl, wx hw 138 rfl, by decide, _, _, pd_19, rfl⟩
theorem d17_18 : DC cb17 18 (.astore_n 2) 1 := by decide +kernel
theorem d17_19 : DC cb17 19 (.iconst 0) 1 := by decide +kernel
theorem d17_20 : DC cb17 20 (.istore_n 3) 1 := by decide +kernel
theorem d17_21 : DC cb17 21 (.iconst 0) 1 := by decide +kernel
theorem d17_22 : DC cb17 22 (.istore 4) 2 := by decide +kernel
theorem d17_24 : DC cb17 24 (.iload 4) 2 := by decide +kernel
theorem d17_26 : DC cb17 26 (.aload_n 0) 1 := by decide +kernel
theorem d17_27 : DC cb17 27 (.getfield 7) 3 := by decide +kernel
theorem d17_30 : DC cb17 30 (.arraylength) 1 := by decide +kernel
theorem d17_31 : DC cb17 31 (.if_icmp .ge 134) 3 := by decide +kernel
theorem d17_34 : DC cb17 34 (.aload_n 0) 1 := by decide +kernel
theorem d17_35 : DC cb17 35 (.getfield 7) 3 := by decide +kernel
theorem d17_38 : DC cb17 38 (.iload 4) 2 := by decide +kernel
theorem d17_40 : DC cb17 40 (.laload) 1 := by decide +kernel
theorem d17_41 : DC cb17 41 (.lstore 5) 2 := by decide +kernel
theorem d17_43 : DC cb17 43 (.iload_n 3) 1 := by decide +kernel
theorem d17_44 : DC cb17 44 (.aload_n 1) 1 := by decide +kernel
theorem d17_45 : DC cb17 45 (.getfield 7) 3 := by decide +kernel
theorem d17_48 : DC cb17 48 (.arraylength) 1 := by decide +kernel
theorem d17_49 : DC cb17 49 (.if_icmp .ge 21) 3 := by decide +kernel
theorem d17_52 : DC cb17 52 (.aload_n 1) 1 := by decide +kernel
theorem d17_53 : DC cb17 53 (.getfield 13) 3 := by decide +kernel
theorem d17_56 : DC cb17 56 (.iload_n 3) 1 := by decide +kernel
theorem d17_57 : DC cb17 57 (.laload) 1 := by decide +kernel
theorem d17_58 : DC cb17 58 (.lload 5) 2 := by decide +kernel
theorem d17_60 : DC cb17 60 (.lcmp) 1 := by decide +kernel
theorem d17_61 : DC cb17 61 (.ifCond .ge 9) 3 := by decide +kernel
theorem d17_70 : DC cb17 70 (.iload_n 3) 1 := by decide +kernel
theorem d17_71 : DC cb17 71 (.istore 7) 2 := by decide +kernel
theorem d17_73 : DC cb17 73 (.iload 7) 2 := by decide +kernel
theorem d17_75 : DC cb17 75 (.aload_n 1) 1 := by decide +kernel
theorem d17_76 : DC cb17 76 (.getfield 7) 3 := by decide +kernel
theorem d17_79 : DC cb17 79 (.arraylength) 1 := by decide +kernel
theorem d17_80 : DC cb17 80 (.if_icmp .ge 66) 3 := by decide +kernel
theorem d17_83 : DC cb17 83 (.aload_n 1) 1 := by decide +kernel
theorem d17_84 : DC cb17 84 (.getfield 7) 3 := by decide +kernel
theorem d17_87 : DC cb17 87 (.iload 7) 2 := by decide +kernel
theorem d17_89 : DC cb17 89 (.laload) 1 := by decide +kernel
theorem d17_90 : DC cb17 90 (.aload_n 0) 1 := by decide +kernel
theorem d17_91 : DC cb17 91 (.getfield 13) 3 := by decide +kernel
theorem d17_94 : DC cb17 94 (.iload 4) 2 := by decide +kernel
theorem d17_96 : DC cb17 96 (.laload) 1 := by decide +kernel
theorem d17_97 : DC cb17 97 (.lcmp) 1 := by decide +kernel
theorem d17_98 : DC cb17 98 (.ifCond .gt 48) 3 := by decide +kernel
theorem d17_146 : DC cb17 146 (.aload_n 2) 1 := by decide +kernel
theorem d17_147 : DC cb17 147 (.lload 5) 2 := by decide +kernel
theorem d17_149 : DC cb17 149 (.aload_n 0) 1 := by decide +kernel
theorem d17_150 : DC cb17 150 (.getfield 13) 3 := by decide +kernel
theorem d17_153 : DC cb17 153 (.iload 4) 2 := by decide +kernel
theorem d17_155 : DC cb17 155 (.laload) 1 := by decide +kernel
theorem d17_156 : DC cb17 156 (.invokevirtual 105) 3 := by decide +kernel
theorem d19_0 : DC cb19 0 (.lload_n 1) 1 := by decide +kernel
theorem d19_1 : DC cb19 1 (.lload_n 3) 1 := by decide +kernel
theorem d19_2 : DC cb19 2 (.lcmp) 1 := by decide +kernel
theorem d19_3 : DC cb19 3 (.ifCond .gt 33) 3 := by decide +kernel
theorem d19_6 : DC cb19 6 (.aload_n 0) 1 := by decide +kernel
theorem d19_7 : DC cb19 7 (.getfield 7) 3 := by decide +kernel
theorem d19_10 : DC cb19 10 (.aload_n 0) 1 := by decide +kernel
theorem d19_11 : DC cb19 11 (.getfield 16) 3 := by decide +kernel
theorem d19_14 : DC cb19 14 (.lload_n 1) 1 := by decide +kernel
theorem d19_15 : DC cb19 15 (.lastore) 1 := by decide +kernel
theorem d19_16 : DC cb19 16 (.aload_n 0) 1 := by decide +kernel
theorem d19_17 : DC cb19 17 (.getfield 13) 3 := by decide +kernel
theorem d19_20 : DC cb19 20 (.aload_n 0) 1 := by decide +kernel
theorem d19_21 : DC cb19 21 (.getfield 16) 3 := by decide +kernel
theorem d19_24 : DC cb19 24 (.lload_n 3) 1 := by decide +kernel
theorem d19_25 : DC cb19 25 (.lastore) 1 := by decide +kernel
theorem d19_26 : DC cb19 26 (.aload_n 0) 1 := by decide +kernel
theorem d19_27 : DC cb19 27 (.dup) 1 := by decide +kernel
theorem d19_28 : DC cb19 28 (.getfield 16) 3 := by decide +kernel
theorem d19_31 : DC cb19 31 (.iconst 1) 1 := by decide +kernel
theorem d19_32 : DC cb19 32 (.iadd) 1 := by decide +kernel
theorem d19_33 : DC cb19 33 (.putfield 16) 3 := by decide +kernel
theorem d19_36 : DC cb19 36 (.return_) 1 := by decide +kernel
theorem ef_19_28 (m : MethodId) (x0 : Addr) (x1 : Int64) (x2 : Int64) : entryFrame m #[(.ref x0), (.long x1), (.long x2)] 5 = mkF m 0 #[.val (.ref x0), .val (.long x1), .second, .val (.long x2), .second] [] := by first | (simp [entryFrame, mkF, argsToLocals, Value.category]; done) | rfl
theorem rm19_0 (l : Launch) (Z : State) (a0 : Array Value) (hw : HW a0 Z) (a1 : Addr) (q2 q3 : Int64) (a4 : Addr) (q7 q8 : Int64) (k9 : ClassId) (a12 : Addr) (q17 q18 : Int64) (k19 : ClassId) (h0 : Heap) (n0 : Nat) (OL0 : Old Z n0 h0) (pr1 : ¬ (q3 < q2)) (pr2 : Fld Z h0 a1 s44 "lows" "[J" (.ref a4)) (pr3 : Fld Z h0 a1 s44 "count" "I" vi0) (pr4 : Arv Z h0 a4 k9 .long o2 [(.long q7), (.long q8)] lj0) (pr5 : n0 ≤ a4) (pr6 : Fld Z h0 a1 s44 "highs" "[J" (.ref a12)) (pr7 : a1 ≠ a4) (pr8 : Arv Z h0 a12 k19 .long o2 [(.long q17), (.long q18)] lj0) (pr9 : a12 ≠ a4) (pr10 : n0 ≤ a12) (pr11 : a1 ≠ a12) (pr12 : Exa Z h0 a1 s44) (pr13 : n0 ≤ a1) (pr14 : a4 ≠ a12) (pr15 : a4 ≠ a1) (pr16 : a12 ≠ a1) :
    MF l Z mn19 prog_64_method_2_code 5 none ⟨0, 0, 0, 0⟩ #[(.ref a1), (.long q2), (.long q3)] h0 (fun v h L => v = none ∧ Fr n0 L ∧ Keep h0 h [a4, a12, a1] ∧ Arv Z h a4 k9 .long o2 [(.long q2), (.long q8)] lj0 ∧ Arv Z h a12 k19 .long o2 [(.long q3), (.long q18)] lj0 ∧ Fld Z h a1 s44 "lows" "[J" (.ref a4) ∧ Fld Z h a1 s44 "count" "I" vi1 ∧ Fld Z h a1 s44 "highs" "[J" (.ref a12)) := by
  refine own_start (plainFor_of_name pn_11) (fun m => (ef_19_28 m a1 q2 q3)) ?_
  intro p e s m below meth c s₁ hZ hx hy hml ho hnm hret X0 e0
  have N0 := Fr.nil n0
  obtain ⟨T5, X5, e5, st5⟩ := gF X0 hx hZ ho (wd143 hw) Via.refl e0 pr2 7 #[rv a1, jv q2, sc, jv q3, sc] [] (hb hy d19_7)
  obtain ⟨T6, X6, e6, st6⟩ := gF X5 hx hZ ho (wd152 hw) Via.refl e5 pr3 11 #[rv a1, jv q2, sc, jv q3, sc] [(.ref a4)] (hb hy d19_11)
  obtain ⟨T11, h11, X11, e11, W11, VV11, st11⟩ := own_sJ X6 hx hZ e6 pr4 o0 (by decide) 0 q2 [] 15 #[rv a1, jv q2, sc, jv q3, sc] (hb hy d19_15) rfl (Nat.le_of_ble_eq_true rfl)
  have V11 : Arv Z h11 a4 k9 .long o2 [(.long q2), (.long q8)] lj0 := VV11
  have KK11 : Keep h0 h11 [a4, a12, a1] := (Keep.refl h0 [a4, a12, a1]).wr W11 (Or.inl (List.mem_of_getElem? (i := 0) rfl))
  have N11 := Fr.snoc X11 N0 pr5
  have fc13 := (pr6.other W11 (Or.inl pr7))
  obtain ⟨T14, X14, e14, st14⟩ := gF X11 hx hZ ho (wd145 hw) Via.refl e11 fc13 17 #[rv a1, jv q2, sc, jv q3, sc] [] (hb hy d19_17)
  have fc15 := (pr3.other W11 (Or.inl pr7))
  obtain ⟨T16, X16, e16, st16⟩ := gF X14 hx hZ ho (wd152 hw) Via.refl e14 fc15 21 #[rv a1, jv q2, sc, jv q3, sc] [(.ref a12)] (hb hy d19_21)
  have fc20 := (pr8.other W11 pr9)
  obtain ⟨T22, h22, X22, e22, W22, VV22, st22⟩ := own_sJ X16 hx hZ e16 fc20 o0 (by decide) 0 q3 [] 25 #[rv a1, jv q2, sc, jv q3, sc] (hb hy d19_25) rfl (Nat.le_of_ble_eq_true rfl)
  have V22 : Arv Z h22 a12 k19 .long o2 [(.long q3), (.long q18)] lj0 := VV22
  have KK22 : Keep h0 h22 [a4, a12, a1] := KK11.wr W22 (Or.inl (List.mem_of_getElem? (i := 1) rfl))
  have N22 := Fr.snoc X22 N11 pr10
  have fc23 := (fc15.other W22 (Or.inl pr11))
  obtain ⟨T24, X24, e24, st24⟩ := gF X22 hx hZ ho (wd152 hw) Via.refl e22 fc23 28 #[rv a1, jv q2, sc, jv q3, sc] [(.ref a1)] (hb hy d19_28)
  have fc25 := ((pr12.wr W11).wr W22)
  obtain ⟨T26, h26, X26, e26, W26, st26⟩ := putF X24 hx hZ ho (host := "") (Or.inl (wd152 hw)) Via.refl e24 fc23 fc25 (Or.inl (wd153 hw)) (wd137 hw) (ty := .int) (by decide) rfl rfl (g := (mkF m 33 #[rv a1, jv q2, sc, jv q3, sc] [vi1, (.ref a1)])) rfl rfl (hb hy d19_33)
  have Fw26 := fc23.same W26
  have KK26 : Keep h0 h26 [a4, a12, a1] := KK22.wr W26 (Or.inl (List.mem_of_getElem? (i := 2) rfl))
  have N26 := Fr.snoc X26 N22 pr13
  have fc27 := ((fc13.other W22 (Or.inl pr11)).other W26 (Or.inr (slot_ne (Or.inr (wd146 hw)) (Or.inl (wd153 hw)) (by decide) (t := (.array .long)) (t' := .int) (by decide) (by decide))))
  have fc28 := (((pr2.other W11 (Or.inl pr7)).other W22 (Or.inl pr11)).other W26 (Or.inr (slot_ne (Or.inr (wd144 hw)) (Or.inl (wd153 hw)) (by decide) (t := (.array .long)) (t' := .int) (by decide) (by decide))))
  have fc29 := ((V11.other W22 pr14).other W26 pr15)
  have fc30 := (V22.other W26 pr16)
  refine ⟨none, _, _, _, _, _, X26, e26, by decide, fun _ => rfl, fun fs hr => ?_, ?_⟩
  · refine xlloadN X0 hx hy d19_0 rfl ?_
    refine xlloadN X0 hx hy d19_1 rfl ?_
    refine XS.lcmp X0.here hx rfl (hb hy d19_2) rfl ?_
    refine XS.ifNo X0.here hx rfl (hb hy d19_3) rfl ((if0 _ _).trans (flt ((fun z => pr1 ((lw_gt q2 q3).mp z)) : ¬ (o0 < (lcmpW q2 q3)))).2.2.1) ?_
    refine xaloadN X0 hx hy d19_6 rfl rfl ?_
    refine st5 _ ?_
    refine xaloadN X5 hx hy d19_10 rfl rfl ?_
    refine st6 _ ?_
    refine xlloadN X6 hx hy d19_14 rfl ?_
    refine st11 _ ?_
    refine xaloadN X11 hx hy d19_16 rfl rfl ?_
    refine st14 _ ?_
    refine xaloadN X14 hx hy d19_20 rfl rfl ?_
    refine st16 _ ?_
    refine xlloadN X16 hx hy d19_24 rfl ?_
    refine st22 _ ?_
    refine xaloadN X22 hx hy d19_26 rfl rfl ?_
    refine XS.dup X22.here hx rfl (hb hy d19_27) rfl rfl ?_
    refine st24 _ ?_
    refine XS.iconst X24.here hx rfl (hb hy d19_31) ?_
    refine XS.iadd X24.here hx rfl (hb hy d19_32) rfl ?_
    refine st26 _ ?_
    show SS p e below T26 m 36 #[rv a1, jv q2, sc, jv q3, sc] [] _
    exact X26.returnOut hx hret (hb hy d19_36) hr
  · exact ⟨rfl, N26, KK26, fc29, fc30, fc28, Fw26, fc27⟩
theorem pd_20 : parseMethodDescriptor "(JJ)V" = some ⟨[.long, .long], none⟩ := by decide +kernel
theorem cw28 {a0 Z} (hw : HW a0 Z) : CV a0 Z s43 105 mn19 mn19 s44 2 (.code mn19 prog_64_method_2_code 5 none) :=
  ⟨wx hw 147 rfl, wx hw 148 rfl, (fun _ hZ => notFace_of_selects (args := #[]) (mvT hZ (wd150 hw))), wx hw 150 rfl, wx hw 149 rfl, wx hw 151 rfl, wx hw 138 rfl, by decide, _, _, pd_20, rfl⟩
theorem d17_159 : DC cb17 159 (.iinc 4 1) 3 := by decide +kernel
theorem d17_162 : DC cb17 162 (.goto (-138)) 3 := by decide +kernel
theorem d17_165 : DC cb17 165 (.aload_n 2) 1 := by decide +kernel
theorem d17_166 : DC cb17 166 (.invokevirtual 109) 3 := by decide +kernel
theorem d20_0 : DC cb20 0 (.aload_n 0) 1 := by decide +kernel
theorem d20_1 : DC cb20 1 (.getfield 16) 3 := by decide +kernel
theorem d20_4 : DC cb20 4 (.ifCond .ne 9) 3 := by decide +kernel
theorem d20_13 : DC cb20 13 (.new 26) 3 := by decide +kernel
theorem d20_16 : DC cb20 16 (.dup) 1 := by decide +kernel
theorem d20_17 : DC cb20 17 (.aload_n 0) 1 := by decide +kernel
theorem d20_18 : DC cb20 18 (.getfield 7) 3 := by decide +kernel
theorem d20_21 : DC cb20 21 (.aload_n 0) 1 := by decide +kernel
theorem d20_22 : DC cb20 22 (.getfield 16) 3 := by decide +kernel
theorem d20_25 : DC cb20 25 (.invokestatic 28) 3 := by decide +kernel
theorem d21_0 : DC cb21 0 (.iload_n 1) 1 := by decide +kernel
theorem d21_1 : DC cb21 1 (.aload_n 0) 1 := by decide +kernel
theorem d21_2 : DC cb21 2 (.arraylength) 1 := by decide +kernel
theorem d21_3 : DC cb21 3 (.if_icmp .ne 11) 3 := by decide +kernel
theorem d21_14 : DC cb21 14 (.iload_n 1) 1 := by decide +kernel
theorem d21_15 : DC cb21 15 (.newarray .long) 2 := by decide +kernel
theorem d21_17 : DC cb21 17 (.astore_n 2) 1 := by decide +kernel
theorem d21_18 : DC cb21 18 (.aload_n 0) 1 := by decide +kernel
theorem d21_19 : DC cb21 19 (.iconst 0) 1 := by decide +kernel
theorem d21_20 : DC cb21 20 (.aload_n 2) 1 := by decide +kernel
theorem d21_21 : DC cb21 21 (.iconst 0) 1 := by decide +kernel
theorem d21_22 : DC cb21 22 (.aload_n 0) 1 := by decide +kernel
theorem d21_23 : DC cb21 23 (.arraylength) 1 := by decide +kernel
theorem d21_24 : DC cb21 24 (.iload_n 1) 1 := by decide +kernel
theorem d21_25 : DC cb21 25 (.invokestatic 304) 3 := by decide +kernel
theorem d22_0 : DC cb22 0 (.iload_n 0) 1 := by decide +kernel
theorem d22_1 : DC cb22 1 (.iload_n 1) 1 := by decide +kernel
theorem d22_2 : DC cb22 2 (.if_icmp .gt 7) 3 := by decide +kernel
theorem d22_9 : DC cb22 9 (.iload_n 1) 1 := by decide +kernel
theorem d22_10 : DC cb22 10 (.ireturn) 1 := by decide +kernel
theorem ef_22_29 (m : MethodId)  : entryFrame m #[(.int (2 : Int32)), (.int (1 : Int32))] 2 = mkF m 0 #[.val (.int (2 : Int32)), .val (.int (1 : Int32))] [] := by first | (simp [entryFrame, mkF, argsToLocals, Value.category]; done) | rfl
theorem rm22_0 (l : Launch) (Z : State) (a0 : Array Value) (hw : HW a0 Z)  (h0 : Heap) (n0 : Nat) (OL0 : Old Z n0 h0)  :
    MF l Z mn22 jdk_29_method_69_code 2 (some .int) ⟨0, 0, 0, 0⟩ #[(.int o2), vi1] h0 (QR n0 h0 (some vi1)) := by
  refine own_start (Jvm.Free.JP.mathPlain rfl (by decide +kernel)) (fun m => (ef_22_29 m )) ?_
  intro p e s m below meth c s₁ hZ hx hy hml ho hnm hret X0 e0
  have N0 := Fr.nil n0
  refine ⟨some vi1, _, _, _, _, _, X0, e0, by decide, nofun, fun fs hr => ?_, ?_⟩
  · refine xiloadN X0 hx hy d22_0 rfl ?_
    refine xiloadN X0 hx hy d22_1 rfl ?_
    refine XS.icmpYes X0.here hx rfl (pc0 := 2) (pc' := 9) rfl (hb hy d22_2) rfl (tlt (by decide : o1 < o2)).2.2.1 (by decide) (by decide) ?_
    refine xiloadN X0 hx hy d22_9 rfl ?_
    show SS p e below s₁ m 10 #[iv o2, iv o1] [vi1] _
    exact retI X0 hx hret (hb hy d22_10) hr
  · exact ⟨rfl, N0, rfl⟩
theorem cw29 {a0 Z} (hw : HW a0 Z) : CS a0 Z s28 304 mn22 2 (.code mn22 jdk_29_method_69_code 2 (some .int)) :=
  ⟨wx hw 164 rfl, wx hw 165 rfl, wx hw 167 rfl, wx hw 166 rfl, by decide, _, _, pd_11, rfl⟩
theorem d21_28 : DC cb21 28 (.invokestatic 150) 3 := by decide +kernel
theorem d21_31 : DC cb21 31 (.aload_n 2) 1 := by decide +kernel
theorem d21_32 : DC cb21 32 (.areturn) 1 := by decide +kernel
theorem ef_21_30 (m : MethodId) (x0 : Addr) : entryFrame m #[(.ref x0), (.int (1 : Int32))] 3 = mkF m 0 #[.val (.ref x0), .val (.int (1 : Int32)), .unset] [] := by first | (simp [entryFrame, mkF, argsToLocals, Value.category]; done) | rfl
theorem pn_12 : plainName "java/util/Arrays" = true := by first | (simp [plainName, overriddenIn]; done) | decide +kernel
theorem rm21_0 (l : Launch) (Z : State) (a0 : Array Value) (hw : HW a0 Z) (a1 : Addr) (q2 q3 : Int64) (k4 : ClassId) (h0 : Heap) (n0 : Nat) (OL0 : Old Z n0 h0) (pr1 : Arv Z h0 a1 k4 .long o2 [(.long q2), (.long q3)] lj0) :
    MF l Z mn21 jdk_65_method_124_code 3 (some (.array .long)) ⟨1, 1, 1, 18⟩ #[(.ref a1), vi1] h0 (fun v h L => ∃ b6 : Addr, ∃ k6 : ClassId, v = some (.ref b6) ∧ Fr n0 L ∧ Keep h0 h [] ∧ h0.size ≤ b6 ∧ Arv Z h b6 k6 .long o1 [(.long q2)] lj0 ∧ Exa Z h b6 "[J") := by
  refine own_start (plainFor_of_name pn_12) (fun m => (ef_21_30 m a1)) ?_
  intro p e s m below meth c s₁ hZ hx hy hml ho hnm hret X0 e0
  have N0 := Fr.nil n0
  obtain ⟨cl5, Ar5, -, Sz5, Nn5, -, -⟩ := id pr1
  obtain ⟨T6, h6, k6, X6, e6, E6, A6, AE6, st6⟩ := newPE (aty := .long) (ad := "[J") X0 hx hZ (wd36 hw) e0 (g := (mkF m 15 #[rv a1, iv o1, uu] [vi1])) rfl (hb hy d21_15) rfl (by decide) (cap := 1) (by decide) (by decide) (by decide) (by decide) (by decide)
  obtain ⟨b6, g6⟩ : ∃ z, z = h0.size := ⟨_, rfl⟩
  rw [← g6] at A6 AE6 st6
  have V6 : Arv Z h6 b6 k6 .long o1 [lj0] lj0 := (Arv.new A6 (by decide)).pad (pad_rep [] lj0 1)
  have g_b6 : n0 ≤ b6 := (Nat.le_trans (Nat.le_trans (Nat.le_of_eq OL0.1.symm) OL0.2.1) (Nat.le_of_eq g6.symm))
  have sz_b6 : h0.size ≤ b6 := (Nat.le_trans (Keep.refl h0 []).1 (Nat.le_of_eq g6.symm))
  have KK6 : Keep h0 h6 [] := (Keep.refl h0 []).ext E6
  have OL6 := OL0.ext E6
  have fc7 := (pr1.ext E6)
  obtain ⟨cl8, Ar8, -, Sz8, Nn8, -, -⟩ := id fc7
  obtain ⟨_, T9, L9, X9, hQ9, st9⟩ := own_cS X6 hx hZ ho hml (cw29 hw) (rm22_0 l Z a0 hw  h6 n0 OL6 ) e6 25 #[rv a1, iv o1, rv b6] [(.int o2), vi1] [vi0, (.ref b6), vi0, (.ref a1)] 4 rfl (hb hy d21_25) (by decide)
  obtain ⟨rfl, Nq9, ec9⟩ := hQ9
  have N9 := Fr.app N0 Nq9
  obtain ⟨T11, h11, L11, X11, e11, N11, K11, VV11, st11⟩ := cpA X9 hx hZ ho (wd168 hw) (wd171 hw) (wd169 hw) (wd170 hw) ec9 (us := [(.long q2)]) fc7 V6 (Or.inl ⟨rfl, rfl⟩) (by decide) (by decide) (by decide) (by decide) (by decide) rfl (by decide) N9 g_b6 (g := (mkF m 28 #[rv a1, iv o1, rv b6] [vi1, vi0, (.ref b6), vi0, (.ref a1)])) rfl (by rw [hml]; rfl) rfl (hb hy d21_28) (by decide) (W := 0) (by show 2 * 0 + _ ≤ _; exact Nat.le_of_eq rfl) (by decide)
  have V11 : Arv Z h11 b6 k6 .long o1 [(.long q2)] lj0 := VV11
  have KK11 : Keep h0 h11 [] := KK6.trans K11 (allS (Or.inr sz_b6) all0)
  have fc12 := (AE6.keep K11)
  refine ⟨some (.ref b6), _, _, _, _, _, X11, e11, by decide, nofun, fun fs hr => ?_, ?_⟩
  · refine xiloadN X0 hx hy d21_0 rfl ?_
    refine xaloadN X0 hx hy d21_1 rfl rfl ?_
    refine X0.arraylength hx (by rw [e0]; exact Ar5.1) (State.isArrayOf_alike hZ.alike Ar5.2.1) (g := (mkF m 2 #[rv a1, iv o1, uu] [(.ref a1), vi1])) rfl rfl (hb hy d21_2) _ ?_
    rw [len_of Sz5 Nn5]
    refine XS.icmpYes X0.here hx rfl (pc0 := 3) (pc' := 14) rfl (hb hy d21_3) rfl (feq (by decide : ¬ (o1 = o2))).2 (by decide) (by decide) ?_
    refine xiloadN X0 hx hy d21_14 rfl ?_
    refine st6 _ ?_
    refine XS.astoreN X6.here hx rfl (hb hy d21_17) rfl rfl (l' := #[rv a1, iv o1, rv b6]) rfl ?_
    refine xaloadN X6 hx hy d21_18 rfl rfl ?_
    refine XS.iconst X6.here hx rfl (hb hy d21_19) ?_
    refine xaloadN X6 hx hy d21_20 rfl rfl ?_
    refine XS.iconst X6.here hx rfl (hb hy d21_21) ?_
    refine xaloadN X6 hx hy d21_22 rfl rfl ?_
    refine X6.arraylength hx (by rw [e6]; exact Ar8.1) (State.isArrayOf_alike hZ.alike Ar8.2.1) (g := (mkF m 23 #[rv a1, iv o1, rv b6] [(.ref a1), vi0, (.ref b6), vi0, (.ref a1)])) rfl rfl (hb hy d21_23) _ ?_
    rw [len_of Sz8 Nn8]
    refine xiloadN X6 hx hy d21_24 rfl ?_
    refine st9 _ ?_
    refine st11 _ ?_
    refine xaloadN X11 hx hy d21_31 rfl rfl ?_
    show SS p e below T11 m 32 #[rv a1, iv o1, rv b6] [(.ref b6)] _
    exact own_retR X11 hx hret rfl rfl rfl (hb hy d21_32) hr
  · exact ⟨b6, k6, rfl, N11, KK11, sz_b6, V11, fc12⟩
theorem pd_21 : parseMethodDescriptor "([JI)[J" = some ⟨[(.array .long), .int], some (.array .long)⟩ := by decide +kernel
theorem cw30 {a0 Z} (hw : HW a0 Z) : CS a0 Z s44 28 mn21 2 (.code mn21 jdk_65_method_124_code 3 (some (.array .long))) :=
  ⟨wx hw 160 rfl, wx hw 161 rfl, wx hw 163 rfl, wx hw 162 rfl, by decide, _, _, pd_21, rfl⟩
theorem d20_28 : DC cb20 28 (.aload_n 0) 1 := by decide +kernel
theorem d20_29 : DC cb20 29 (.getfield 13) 3 := by decide +kernel
theorem d20_32 : DC cb20 32 (.aload_n 0) 1 := by decide +kernel
theorem d20_33 : DC cb20 33 (.getfield 16) 3 := by decide +kernel
theorem d20_36 : DC cb20 36 (.invokestatic 28) 3 := by decide +kernel
theorem d20_39 : DC cb20 39 (.invokespecial 34) 3 := by decide +kernel
theorem cw31 {a0 Z} (hw : HW a0 Z) : CM a0 Z s44 34 mn7 2 s43 (.code mn7 prog_63_method_1_code 3 none) :=
  ⟨rfl, wx hw 172 rfl, wx hw 38 rfl, wx hw 39 rfl, wx hw 31 rfl, by decide, _, _, pd_4, rfl⟩
theorem d20_42 : DC cb20 42 (.invokestatic 37) 3 := by decide +kernel
theorem d23_0 : DC cb23 0 (.new 2) 3 := by decide +kernel
theorem d23_3 : DC cb23 3 (.dup) 1 := by decide +kernel
theorem d23_4 : DC cb23 4 (.aload_n 0) 1 := by decide +kernel
theorem d23_5 : DC cb23 5 (.invokestatic 17) 3 := by decide +kernel
theorem d24_0 : DC cb24 0 (.aload_n 0) 1 := by decide +kernel
theorem d24_1 : DC cb24 1 (.ifnonnull 11) 3 := by decide +kernel
theorem d24_12 : DC cb24 12 (.aload_n 0) 1 := by decide +kernel
theorem d24_13 : DC cb24 13 (.areturn) 1 := by decide +kernel
theorem ef_24_31 (m : MethodId) (x0 : Addr) : entryFrame m #[(.ref x0)] 1 = mkF m 0 #[.val (.ref x0)] [] := by first | (simp [entryFrame, mkF, argsToLocals, Value.category]; done) | rfl
theorem pn_13 : plainName "java/util/Objects" = true := by first | (simp [plainName, overriddenIn]; done) | decide +kernel
theorem rm24_0 (l : Launch) (Z : State) (a0 : Array Value) (hw : HW a0 Z) (a1 : Addr) (h0 : Heap) (n0 : Nat) (OL0 : Old Z n0 h0)  :
    MF l Z mn24 jdk_31_method_10_code 1 (some (.object s20)) ⟨0, 0, 0, 0⟩ #[(.ref a1)] h0 (QR n0 h0 (some (.ref a1))) := by
  refine own_start (plainFor_of_name pn_13) (fun m => (ef_24_31 m a1)) ?_
  intro p e s m below meth c s₁ hZ hx hy hml ho hnm hret X0 e0
  have N0 := Fr.nil n0
  refine ⟨some (.ref a1), _, _, _, _, _, X0, e0, by decide, nofun, fun fs hr => ?_, ?_⟩
  · refine xaloadN X0 hx hy d24_0 rfl rfl ?_
    refine XS.ifnonnullYes X0.here hx rfl (pc0 := 1) (pc' := 12) rfl (hb hy d24_1) rfl (by decide) (by decide) ?_
    refine xaloadN X0 hx hy d24_12 rfl rfl ?_
    show SS p e below s₁ m 13 #[rv a1] [(.ref a1)] _
    exact own_retR X0 hx hret rfl rfl rfl (hb hy d24_13) hr
  · exact ⟨rfl, N0, rfl⟩
theorem pd_22 : parseMethodDescriptor "(Ljava/lang/Object;)Ljava/lang/Object;" = some ⟨[(.object "java/lang/Object")], some (.object "java/lang/Object")⟩ := by decide +kernel
theorem cw32 {a0 Z} (hw : HW a0 Z) : CS a0 Z s32 17 mn24 1 (.code mn24 jdk_31_method_10_code 1 (some (.object s20))) :=
  ⟨wx hw 179 rfl, wx hw 180 rfl, wx hw 182 rfl, wx hw 181 rfl, by decide, _, _, pd_22, rfl⟩
theorem d23_8 : DC cb23 8 (.invokespecial 23) 3 := by decide +kernel
theorem d25_0 : DC cb25 0 (.aload_n 0) 1 := by decide +kernel
theorem d25_1 : DC cb25 1 (.invokespecial 7) 3 := by decide +kernel
theorem d25_4 : DC cb25 4 (.aload_n 0) 1 := by decide +kernel
theorem d25_5 : DC cb25 5 (.aload_n 1) 1 := by decide +kernel
theorem d25_6 : DC cb25 6 (.putfield 13) 3 := by decide +kernel
theorem d25_9 : DC cb25 9 (.return_) 1 := by decide +kernel
theorem ef_25_32 (m : MethodId) (x0 : Addr) (x1 : Addr) : entryFrame m #[(.ref x0), (.ref x1)] 2 = mkF m 0 #[.val (.ref x0), .val (.ref x1)] [] := by first | (simp [entryFrame, mkF, argsToLocals, Value.category]; done) | rfl
theorem pn_14 : plainName "java/util/Optional" = true := by first | (simp [plainName, overriddenIn]; done) | decide +kernel
theorem rm25_0 (l : Launch) (Z : State) (a0 : Array Value) (hw : HW a0 Z) (a1 a2 : Addr) (h0 : Heap) (n0 : Nat) (OL0 : Old Z n0 h0) (pr1 : Exa Z h0 a1 s32) (pr2 : Fld Z h0 a1 s32 "value" s3 .null) (pr3 : n0 ≤ a1) :
    MF l Z mn25 jdk_32_method_2_code 2 none ⟨1, 0, 0, 12⟩ #[(.ref a1), (.ref a2)] h0 (fun v h L => v = none ∧ Fr n0 L ∧ Keep h0 h [a1] ∧ Fld Z h a1 s32 "value" s3 (.ref a2)) := by
  refine own_start (plainFor_of_name pn_14) (fun m => (ef_25_32 m a1 a2)) ?_
  intro p e s m below meth c s₁ hZ hx hy hml ho hnm hret X0 e0
  have N0 := Fr.nil n0
  obtain ⟨T3, X3, e3, st3⟩ := initO X0 hx hZ ho (wd187 hw) (wd23 hw) (wd24 hw) e0 (g := (mkF m 1 #[rv a1, rv a2] [(.ref a1)])) rfl (by rw [hml]; rfl) rfl (hb hy d25_1) (by decide) (W := 0) (by show 2 * 0 + _ ≤ _; exact Nat.le_of_eq rfl) (by decide)
  obtain ⟨T4, h4, X4, e4, W4, st4⟩ := putF X3 hx hZ ho (host := "") (Or.inl (wd188 hw)) Via.refl e3 pr2 pr1 (Or.inr ⟨(wd189 hw), rfl, hnm⟩) (wd178 hw) (ty := (.object s20)) (by decide) rfl rfl (g := (mkF m 6 #[rv a1, rv a2] [(.ref a2), (.ref a1)])) rfl rfl (hb hy d25_6)
  have Fw4 := pr2.same W4
  have KK4 : Keep h0 h4 [a1] := (Keep.refl h0 [a1]).wr W4 (Or.inl (List.mem_of_getElem? (i := 0) rfl))
  have N4 := Fr.snoc X4 N0 pr3
  refine ⟨none, _, _, _, _, _, X4, e4, by decide, fun _ => rfl, fun fs hr => ?_, ?_⟩
  · refine xaloadN X0 hx hy d25_0 rfl rfl ?_
    refine st3 _ ?_
    refine xaloadN X3 hx hy d25_4 rfl rfl ?_
    refine xaloadN X3 hx hy d25_5 rfl rfl ?_
    refine st4 _ ?_
    show SS p e below T4 m 9 #[rv a1, rv a2] [] _
    exact X4.returnOut hx hret (hb hy d25_9) hr
  · exact ⟨rfl, N4, KK4, Fw4⟩
theorem pd_23 : parseMethodDescriptor "(Ljava/lang/Object;)V" = some ⟨[(.object "java/lang/Object")], none⟩ := by decide +kernel
theorem cw33 {a0 Z} (hw : HW a0 Z) : CN a0 Z s32 23 mn25 1 (.code mn25 jdk_32_method_2_code 2 none) :=
  ⟨rfl, wx hw 183 rfl, wx hw 184 rfl, wx hw 186 rfl, wx hw 175 rfl, by decide, _, _, pd_23, rfl⟩
theorem d23_11 : DC cb23 11 (.areturn) 1 := by decide +kernel
theorem ef_23_33 (m : MethodId) (x0 : Addr) : entryFrame m #[(.ref x0)] 1 = mkF m 0 #[.val (.ref x0)] [] := by first | (simp [entryFrame, mkF, argsToLocals, Value.category]; done) | rfl
theorem rm23_0 (l : Launch) (Z : State) (a0 : Array Value) (hw : HW a0 Z) (a1 : Addr) (h0 : Heap) (n0 : Nat) (OL0 : Old Z n0 h0)  :
    MF l Z mn23 jdk_32_method_3_code 1 (some (.object s32)) ⟨2, 1, 1, 26⟩ #[(.ref a1)] h0 (fun v h L => ∃ b2 : Addr, v = some (.ref b2) ∧ Fr n0 L ∧ Keep h0 h [] ∧ h0.size ≤ b2 ∧ Exa Z h b2 s32 ∧ Fld Z h b2 s32 "value" s3 (.ref a1)) := by
  refine own_start (plainFor_of_name pn_14) (fun m => (ef_23_33 m a1)) ?_
  intro p e s m below meth c s₁ hZ hx hy hml ho hnm hret X0 e0
  have N0 := Fr.nil n0
  obtain ⟨T2, h2, X2, e2, E2, A2, D2, -, st2⟩ := newO X0 hx hZ ho (wd177 hw) (wd178 hw) (wd175 hw) e0 (g := (mkF m 0 #[rv a1] [])) rfl (hb hy d23_0) (by decide) (by decide)
  obtain ⟨b2, g2⟩ : ∃ z, z = h0.size := ⟨_, rfl⟩
  rw [← g2] at A2 D2 st2
  have g_b2 : n0 ≤ b2 := (Nat.le_trans (Nat.le_trans (Nat.le_of_eq OL0.1.symm) OL0.2.1) (Nat.le_of_eq g2.symm))
  have sz_b2 : h0.size ≤ b2 := (Nat.le_trans (Keep.refl h0 []).1 (Nat.le_of_eq g2.symm))
  have KK2 : Keep h0 h2 [] := (Keep.refl h0 []).ext E2
  have OL2 := OL0.ext E2
  have F_value_b2 : Fld Z h2 b2 s32 "value" s3 .null := D2 (Or.inr (wd189 hw)) (ty := (.object s20)) (by decide)
  obtain ⟨_, T3, L3, X3, hQ3, st3⟩ := own_cS X2 hx hZ ho hml (cw32 hw) (rm24_0 l Z a0 hw a1 h2 n0 OL2 ) e2 5 #[rv a1] [(.ref a1)] [(.ref b2), (.ref b2)] 2 rfl (hb hy d23_5) (by decide)
  obtain ⟨rfl, Nq3, ec3⟩ := hQ3
  have N3 := Fr.app N0 Nq3
  obtain ⟨_, T4, L4, X4, hQ4, st4⟩ := own_cN X3 hx hZ ho hml (cw33 hw) (rm25_0 l Z a0 hw b2 a1 h2 n0 OL2 A2 F_value_b2 g_b2) ec3 b2 8 #[rv a1] [(.ref a1)] [(.ref b2)] 1 rfl (hb hy d23_8) (by decide)
  obtain ⟨rfl, Nq4, K4, u4_0⟩ := hQ4
  have KK4 : Keep h0 T4.heap [] := KK2.trans K4 (allS (Or.inr sz_b2) all0)
  have N4 := Fr.app N3 Nq4
  have fc5 := (A2.keep K4)
  refine ⟨some (.ref b2), _, _, _, _, _, X4, rfl, by decide, nofun, fun fs hr => ?_, ?_⟩
  · refine st2 _ ?_
    refine XS.dup X2.here hx rfl (hb hy d23_3) rfl rfl ?_
    refine xaloadN X2 hx hy d23_4 rfl rfl ?_
    refine st3 _ ?_
    refine st4 _ ?_
    show SS p e below T4 m 11 #[rv a1] [(.ref b2)] _
    exact own_retR X4 hx hret rfl rfl rfl (hb hy d23_11) hr
  · exact ⟨b2, rfl, N4, KK4, sz_b2, fc5, u4_0⟩
theorem pd_24 : parseMethodDescriptor "(Ljava/lang/Object;)Ljava/util/Optional;" = some ⟨[(.object "java/lang/Object")], some (.object "java/util/Optional")⟩ := by decide +kernel
theorem cw34 {a0 Z} (hw : HW a0 Z) : CS a0 Z s44 37 mn23 1 (.code mn23 jdk_32_method_3_code 1 (some (.object s32))) :=
  ⟨wx hw 173 rfl, wx hw 174 rfl, wx hw 176 rfl, wx hw 175 rfl, by decide, _, _, pd_24, rfl⟩
theorem d20_45 : DC cb20 45 (.areturn) 1 := by decide +kernel
theorem ef_20_34 (m : MethodId) (x0 : Addr) : entryFrame m #[(.ref x0)] 1 = mkF m 0 #[.val (.ref x0)] [] := by first | (simp [entryFrame, mkF, argsToLocals, Value.category]; done) | rfl
theorem rm20_0 (l : Launch) (Z : State) (a0 : Array Value) (hw : HW a0 Z) (a1 a4 : Addr) (q9 q10 : Int64) (k11 : ClassId) (a14 : Addr) (q19 q20 : Int64) (k21 : ClassId) (h0 : Heap) (n0 : Nat) (OL0 : Old Z n0 h0) (pr1 : Fld Z h0 a1 s44 "count" "I" vi1) (pr2 : Fld Z h0 a1 s44 "lows" "[J" (.ref a4)) (pr3 : Arv Z h0 a4 k11 .long o2 [(.long q9), (.long q10)] lj0) (pr4 : Fld Z h0 a1 s44 "highs" "[J" (.ref a14)) (pr5 : Arv Z h0 a14 k21 .long o2 [(.long q19), (.long q20)] lj0) :
    MF l Z mn20 prog_64_method_3_code 1 (some (.object s32)) ⟨3, 4, 5, 38⟩ #[(.ref a1)] h0 (fun v h L => ∃ b28_0 b3 b12_0 b22_0 : Addr, ∃ kx12_0 : ClassId, ∃ kx22_0 : ClassId, v = some (.ref b28_0) ∧ Fr n0 L ∧ Keep h0 h [] ∧ h0.size ≤ b28_0 ∧ h0.size ≤ b3 ∧ h0.size ≤ b12_0 ∧ h0.size ≤ b22_0 ∧ b28_0 ≠ b3 ∧ b28_0 ≠ b12_0 ∧ b28_0 ≠ b22_0 ∧ b3 ≠ b12_0 ∧ b3 ≠ b22_0 ∧ b12_0 ≠ b22_0 ∧ Exa Z h b28_0 s32 ∧ Fld Z h b28_0 s32 "value" s3 (.ref b3) ∧ Exa Z h b3 s43 ∧ Fld Z h b3 s43 "lows" "[J" (.ref b12_0) ∧ Fld Z h b3 s43 "highs" "[J" (.ref b22_0) ∧ Arv Z h b12_0 kx12_0 .long o1 [(.long q9)] lj0 ∧ Exa Z h b12_0 "[J" ∧ Arv Z h b22_0 kx22_0 .long o1 [(.long q19)] lj0 ∧ Exa Z h b22_0 "[J") := by
  refine own_start (plainFor_of_name pn_11) (fun m => (ef_20_34 m a1)) ?_
  intro p e s m below meth c s₁ hZ hx hy hml ho hnm hret X0 e0
  have N0 := Fr.nil n0
  obtain ⟨T2, X2, e2, st2⟩ := gF X0 hx hZ ho (wd152 hw) Via.refl e0 pr1 1 #[rv a1] [] (hb hy d20_1)
  obtain ⟨T3, h3, X3, e3, E3, A3, D3, -, st3⟩ := newO X2 hx hZ ho (wd159 hw) (wd35 hw) (wd31 hw) e2 (g := (mkF m 13 #[rv a1] [])) rfl (hb hy d20_13) (by decide) (by decide)
  obtain ⟨b3, g3⟩ : ∃ z, z = h0.size := ⟨_, rfl⟩
  rw [← g3] at A3 D3 st3
  have g_b3 : n0 ≤ b3 := (Nat.le_trans (Nat.le_trans (Nat.le_of_eq OL0.1.symm) OL0.2.1) (Nat.le_of_eq g3.symm))
  have sz_b3 : h0.size ≤ b3 := (Nat.le_trans (Keep.refl h0 []).1 (Nat.le_of_eq g3.symm))
  have KK3 : Keep h0 h3 [] := (Keep.refl h0 []).ext E3
  have OL3 := OL0.ext E3
  have F_lows_b3 : Fld Z h3 b3 s43 "lows" "[J" .null := D3 (Or.inr (wd42 hw)) (ty := (.array .long)) (by decide)
  have F_highs_b3 : Fld Z h3 b3 s43 "highs" "[J" .null := D3 (Or.inr (wd44 hw)) (ty := (.array .long)) (by decide)
  have fc5 := (pr2.ext E3)
  obtain ⟨T6, X6, e6, st6⟩ := gF X3 hx hZ ho (wd143 hw) Via.refl e3 fc5 18 #[rv a1] [(.ref b3), (.ref b3)] (hb hy d20_18)
  have fc7 := (pr1.ext E3)
  obtain ⟨T8, X8, e8, st8⟩ := gF X6 hx hZ ho (wd152 hw) Via.refl e6 fc7 22 #[rv a1] [(.ref a4), (.ref b3), (.ref b3)] (hb hy d20_22)
  have fc13 := (pr3.ext E3)
  obtain ⟨_, T12, L12, X12, hQ12, st12⟩ := own_cS X8 hx hZ ho hml (cw30 hw) (rm21_0 l Z a0 hw a4 q9 q10 k11 h3 n0 OL3 fc13) e8 25 #[rv a1] [(.ref a4), vi1] [(.ref b3), (.ref b3)] 2 rfl (hb hy d20_25) (by decide)
  obtain ⟨b12_0, kx12_0, rfl, Nq12, K12, u12_0, u12_1, u12_2⟩ := hQ12
  have KK12 : Keep h0 T12.heap [] := KK3.trans K12 all0
  have OL12 := OL3.keep K12 all0
  have sz_b12_0 : h0.size ≤ b12_0 := Nat.le_trans KK3.1 u12_0
  have N12 := Fr.app N0 Nq12
  have fc15 := ((pr4.ext E3).keep K12 nin0)
  obtain ⟨T16, X16, e16, st16⟩ := gF X12 hx hZ ho (wd145 hw) Via.refl rfl fc15 29 #[rv a1] [(.ref b12_0), (.ref b3), (.ref b3)] (hb hy d20_29)
  have fc17 := (fc7.keep K12 nin0)
  obtain ⟨T18, X18, e18, st18⟩ := gF X16 hx hZ ho (wd152 hw) Via.refl e16 fc17 33 #[rv a1] [(.ref a14), (.ref b12_0), (.ref b3), (.ref b3)] (hb hy d20_33)
  have fc23 := ((pr5.ext E3).keep K12 nin0)
  obtain ⟨_, T22, L22, X22, hQ22, st22⟩ := own_cS X18 hx hZ ho hml (cw30 hw) (rm21_0 l Z a0 hw a14 q19 q20 k21 T12.heap n0 OL12 fc23) e18 36 #[rv a1] [(.ref a14), vi1] [(.ref b12_0), (.ref b3), (.ref b3)] 3 rfl (hb hy d20_36) (by decide)
  obtain ⟨b22_0, kx22_0, rfl, Nq22, K22, u22_0, u22_1, u22_2⟩ := hQ22
  have KK22 : Keep h0 T22.heap [] := KK12.trans K22 all0
  have OL22 := OL12.keep K22 all0
  have sz_b22_0 : h0.size ≤ b22_0 := Nat.le_trans KK12.1 u22_0
  have N22 := Fr.app N12 Nq22
  have fc25 := ((A3.keep K12).keep K22)
  have fc26 := ((F_lows_b3.keep K12 nin0).keep K22 nin0)
  have fc27 := ((F_highs_b3.keep K12 nin0).keep K22 nin0)
  obtain ⟨_, T24, L24, X24, hQ24, st24⟩ := own_cM X22 hx hZ ho hml (cw31 hw) (rm7_0 l Z a0 hw b3 b12_0 b22_0 T22.heap n0 OL22 fc25 fc26 g_b3 fc27) rfl b3 39 #[rv a1] [(.ref b12_0), (.ref b22_0)] [(.ref b3)] 1 rfl (hb hy d20_39) (by decide)
  obtain ⟨rfl, Nq24, K24, u24_0, u24_1⟩ := hQ24
  have KK24 : Keep h0 T24.heap [] := KK22.trans K24 (allS (Or.inr sz_b3) all0)
  have OL24 := OL22.keep K24 (allS g_b3 all0)
  have N24 := Fr.app N22 Nq24
  obtain ⟨_, T28, L28, X28, hQ28, st28⟩ := own_cS X24 hx hZ ho hml (cw34 hw) (rm23_0 l Z a0 hw b3 T24.heap n0 OL24 ) rfl 42 #[rv a1] [(.ref b3)] [] 0 rfl (hb hy d20_42) (by decide)
  obtain ⟨b28_0, rfl, Nq28, K28, u28_0, u28_1, u28_2⟩ := hQ28
  have KK28 : Keep h0 T28.heap [] := KK24.trans K28 all0
  have sz_b28_0 : h0.size ≤ b28_0 := Nat.le_trans KK24.1 u28_0
  have N28 := Fr.app N24 Nq28
  have nz29 := nl u24_1.lt u28_0
  have lz30 := (lq (lq u12_2.lt K22.1) K24.1)
  have nz31 := nl lz30 u28_0
  have lz32 := (lq u22_2.lt K24.1)
  have nz33 := nl lz32 u28_0
  have nz34 := nl F_lows_b3.lt u12_0
  have lz35 := (lq F_lows_b3.lt K12.1)
  have nz36 := nl lz35 u22_0
  have nz37 := nl u12_2.lt u22_0
  have fc38 := ((fc25.keep K24).keep K28)
  have fc39 := (u24_0.keep K28 nin0)
  have fc40 := (u24_1.keep K28 nin0)
  have fc41 := (((u12_1.keep K22 nin0).keep K24 (ninS (Ne.symm nz34) nin0)).keep K28 nin0)
  have fc42 := (((u12_2.keep K22).keep K24).keep K28)
  have fc43 := ((u22_1.keep K24 (ninS (Ne.symm nz36) nin0)).keep K28 nin0)
  have fc44 := ((u22_2.keep K24).keep K28)
  refine ⟨some (.ref b28_0), _, _, _, _, _, X28, rfl, by decide, nofun, fun fs hr => ?_, ?_⟩
  · refine xaloadN X0 hx hy d20_0 rfl rfl ?_
    refine st2 _ ?_
    refine XS.ifYes X2.here hx rfl (pc0 := 4) (pc' := 13) rfl (hb hy d20_4) rfl ((if0 _ _).trans (feq (by decide : ¬ (o1 = o0))).2) (by decide) (by decide) ?_
    refine st3 _ ?_
    refine XS.dup X3.here hx rfl (hb hy d20_16) rfl rfl ?_
    refine xaloadN X3 hx hy d20_17 rfl rfl ?_
    refine st6 _ ?_
    refine xaloadN X6 hx hy d20_21 rfl rfl ?_
    refine st8 _ ?_
    refine st12 _ ?_
    refine xaloadN X12 hx hy d20_28 rfl rfl ?_
    refine st16 _ ?_
    refine xaloadN X16 hx hy d20_32 rfl rfl ?_
    refine st18 _ ?_
    refine st22 _ ?_
    refine st24 _ ?_
    refine st28 _ ?_
    show SS p e below T28 m 45 #[rv a1] [(.ref b28_0)] _
    exact own_retR X28 hx hret rfl rfl rfl (hb hy d20_45) hr
  · exact ⟨b28_0, b3, b12_0, b22_0, kx12_0, kx22_0, rfl, N28, KK28, sz_b28_0, sz_b3, sz_b12_0, sz_b22_0, (Ne.symm nz29), (Ne.symm nz31), (Ne.symm nz33), nz34, nz36, nz37, u28_1, u28_2, fc38, fc39, fc40, fc41, fc42, fc43, fc44⟩
theorem pd_25 : parseMethodDescriptor "()Ljava/util/Optional;" = some ⟨[], some (.object "java/util/Optional")⟩ := by decide +kernel
theorem cw35 {a0 Z} (hw : HW a0 Z) : CV a0 Z s43 109 mn20 mn20 s44 0 (.code mn20 prog_64_method_3_code 1 (some (.object s32))) :=
  ⟨wx hw 154 rfl, wx hw 155 rfl, (fun _ hZ => notFace_of_selects (args := #[]) (mvT hZ (wd157 hw))), wx hw 157 rfl, wx hw 156 rfl, wx hw 158 rfl, wx hw 138 rfl, by decide, _, _, pd_25, rfl⟩
theorem d17_169 : DC cb17 169 (.areturn) 1 := by decide +kernel
theorem ef_17_35 (m : MethodId) (x0 : Addr) (x1 : Addr) : entryFrame m #[(.ref x0), (.ref x1)] 8 = mkF m 0 #[.val (.ref x0), .val (.ref x1), .unset, .unset, .unset, .unset, .unset, .unset] [] := by first | (simp [entryFrame, mkF, argsToLocals, Value.category]; done) | rfl
theorem rm17_0 (l : Launch) (Z : State) (a0 : Array Value) (hw : HW a0 Z) (a1 a2 a4 : Addr) (q7 : Int64) (k8 : ClassId) (a11 : Addr) (q14 : Int64) (k15 : ClassId) (a33 : Addr) (q36 : Int64) (k37 : ClassId) (a45 : Addr) (q48 : Int64) (k49 : ClassId) (h0 : Heap) (n0 : Nat) (OL0 : Old Z n0 h0) (pr1 : Fld Z h0 a1 s43 "lows" "[J" (.ref a4)) (pr2 : Arv Z h0 a4 k8 .long o1 [(.long q7)] lj0) (pr3 : Fld Z h0 a2 s43 "lows" "[J" (.ref a11)) (pr4 : Arv Z h0 a11 k15 .long o1 [(.long q14)] lj0) (pr5 : Fld Z h0 a2 s43 "highs" "[J" (.ref a33)) (pr6 : Arv Z h0 a33 k37 .long o1 [(.long q36)] lj0) (pr7 : ¬ (q36 < q7)) (pr8 : Fld Z h0 a1 s43 "highs" "[J" (.ref a45)) (pr9 : Arv Z h0 a45 k49 .long o1 [(.long q48)] lj0) (pr10 : q48 < q14) (pr11 : ¬ (q48 < q7)) :
    MF l Z mn17 prog_63_method_5_code 8 (some (.object s32)) ⟨4, 7, 12, 50⟩ #[(.ref a1), (.ref a2)] h0 (fun v h L => ∃ b67_0 b67_1 b67_2 b67_3 : Addr, ∃ kx67_0 : ClassId, ∃ kx67_1 : ClassId, v = some (.ref b67_0) ∧ Fr n0 L ∧ Keep h0 h [] ∧ h0.size ≤ b67_0 ∧ h0.size ≤ b67_1 ∧ h0.size ≤ b67_2 ∧ h0.size ≤ b67_3 ∧ b67_0 ≠ b67_1 ∧ b67_0 ≠ b67_2 ∧ b67_0 ≠ b67_3 ∧ b67_1 ≠ b67_2 ∧ b67_1 ≠ b67_3 ∧ b67_2 ≠ b67_3 ∧ Exa Z h b67_0 s32 ∧ Fld Z h b67_0 s32 "value" s3 (.ref b67_1) ∧ Exa Z h b67_1 s43 ∧ Fld Z h b67_1 s43 "lows" "[J" (.ref b67_2) ∧ Fld Z h b67_1 s43 "highs" "[J" (.ref b67_3) ∧ Arv Z h b67_2 kx67_0 .long o1 [(.long q7)] lj0 ∧ Exa Z h b67_2 "[J" ∧ Arv Z h b67_3 kx67_1 .long o1 [(.long q48)] lj0 ∧ Exa Z h b67_3 "[J") := by
  refine own_start (plainFor_of_name pn_2) (fun m => (ef_17_35 m a1 a2)) ?_
  intro p e s m below meth c s₁ hZ hx hy hml ho hnm hret X0 e0
  have N0 := Fr.nil n0
  obtain ⟨T3, h3, X3, e3, E3, A3, D3, -, st3⟩ := newO X0 hx hZ ho (wd136 hw) (wd137 hw) (wd138 hw) e0 (g := (mkF m 0 #[rv a1, rv a2, uu, uu, uu, uu, uu, uu] [])) rfl (hb hy d17_0) (by decide) (by decide)
  obtain ⟨b3, g3⟩ : ∃ z, z = h0.size := ⟨_, rfl⟩
  rw [← g3] at A3 D3 st3
  have g_b3 : n0 ≤ b3 := (Nat.le_trans (Nat.le_trans (Nat.le_of_eq OL0.1.symm) OL0.2.1) (Nat.le_of_eq g3.symm))
  have sz_b3 : h0.size ≤ b3 := (Nat.le_trans (Keep.refl h0 []).1 (Nat.le_of_eq g3.symm))
  have KK3 : Keep h0 h3 [] := (Keep.refl h0 []).ext E3
  have OL3 := OL0.ext E3
  have F_lows_b3 : Fld Z h3 b3 s44 "lows" "[J" .null := D3 (Or.inr (wd144 hw)) (ty := (.array .long)) (by decide)
  have F_highs_b3 : Fld Z h3 b3 s44 "highs" "[J" .null := D3 (Or.inr (wd146 hw)) (ty := (.array .long)) (by decide)
  have F_count_b3 : Fld Z h3 b3 s44 "count" "I" vi0 := D3 (Or.inl (wd153 hw)) (ty := .int) (by decide)
  have fc5 := (pr1.ext E3)
  obtain ⟨T6, X6, e6, st6⟩ := gF X3 hx hZ ho (wd41 hw) Via.refl e3 fc5 5 #[rv a1, rv a2, uu, uu, uu, uu, uu, uu] [(.ref b3), (.ref b3)] (hb hy d17_5)
  have fc9 := (pr2.ext E3)
  obtain ⟨cl10, Ar10, -, Sz10, Nn10, -, -⟩ := id fc9
  have fc12 := (pr3.ext E3)
  obtain ⟨T13, X13, e13, st13⟩ := gF X6 hx hZ ho (wd41 hw) Via.refl e6 fc12 10 #[rv a1, rv a2, uu, uu, uu, uu, uu, uu] [vi1, (.ref b3), (.ref b3)] (hb hy d17_10)
  have fc16 := (pr4.ext E3)
  obtain ⟨cl17, Ar17, -, Sz17, Nn17, -, -⟩ := id fc16
  obtain ⟨_, T18, L18, X18, hQ18, st18⟩ := own_cN X13 hx hZ ho hml (cw27 hw) (rm18_0 l Z a0 hw b3 h3 n0 OL3 A3 F_lows_b3 g_b3 F_highs_b3 F_count_b3) e13 b3 15 #[rv a1, rv a2, uu, uu, uu, uu, uu, uu] [(.int o2)] [(.ref b3)] 1 rfl (hb hy d17_15) (by decide)
  obtain ⟨b18_0, b18_1, kx18_0, kx18_1, rfl, Nq18, K18, u18_0, u18_1, u18_2, u18_3, u18_4, u18_5, u18_6, u18_7, u18_8, u18_9⟩ := hQ18
  have KK18 : Keep h0 T18.heap [] := KK3.trans K18 (allS (Or.inr sz_b3) all0)
  have OL18 := OL3.keep K18 (allS g_b3 all0)
  have g_b18_0 : n0 ≤ b18_0 := Nat.le_trans (Nat.le_trans (Nat.le_of_eq OL3.1.symm) OL3.2.1) u18_0
  have sz_b18_0 : h0.size ≤ b18_0 := Nat.le_trans KK3.1 u18_0
  have g_b18_1 : n0 ≤ b18_1 := Nat.le_trans (Nat.le_trans (Nat.le_of_eq OL3.1.symm) OL3.2.1) u18_1
  have sz_b18_1 : h0.size ≤ b18_1 := Nat.le_trans KK3.1 u18_1
  have N18 := Fr.app N0 Nq18
  have nz19 := nl pr1.lt sz_b3
  have fc20 := (fc5.keep K18 (ninS nz19 nin0))
  obtain ⟨T21, X21, e21, st21⟩ := gF X18 hx hZ ho (wd41 hw) Via.refl rfl fc20 27 #[rv a1, rv a2, rv b3, iv o0, iv o0, uu, uu, uu] [vi0] (hb hy d17_27)
  have nz22 := nl pr2.lt sz_b3
  have fc23 := (fc9.keep K18 (ninS nz22 nin0))
  obtain ⟨cl24, Ar24, -, Sz24, Nn24, -, -⟩ := id fc23
  obtain ⟨T25, X25, e25, st25⟩ := gF X21 hx hZ ho (wd41 hw) Via.refl e21 fc20 35 #[rv a1, rv a2, rv b3, iv o0, iv o0, uu, uu, uu] [] (hb hy d17_35)
  have nz27 := nl pr3.lt sz_b3
  have fc28 := (fc12.keep K18 (ninS nz27 nin0))
  obtain ⟨T29, X29, e29, st29⟩ := gF X25 hx hZ ho (wd41 hw) Via.refl e25 fc28 45 #[rv a1, rv a2, rv b3, iv o0, iv o0, jv q7, sc, uu] [vi0] (hb hy d17_45)
  have nz30 := nl pr4.lt sz_b3
  have fc31 := (fc16.keep K18 (ninS nz30 nin0))
  obtain ⟨cl32, Ar32, -, Sz32, Nn32, -, -⟩ := id fc31
  have fc34 := ((pr5.ext E3).keep K18 (ninS nz27 nin0))
  obtain ⟨T35, X35, e35, st35⟩ := gF X29 hx hZ ho (wd43 hw) Via.refl e29 fc34 53 #[rv a1, rv a2, rv b3, iv o0, iv o0, jv q7, sc, uu] [] (hb hy d17_53)
  have nz38 := nl pr6.lt sz_b3
  have fc39 := ((pr6.ext E3).keep K18 (ninS nz38 nin0))
  obtain ⟨T41, X41, e41, st41⟩ := gF X35 hx hZ ho (wd41 hw) Via.refl e35 fc28 76 #[rv a1, rv a2, rv b3, iv o0, iv o0, jv q7, sc, iv o0] [vi0] (hb hy d17_76)
  obtain ⟨cl42, Ar42, -, Sz42, Nn42, -, -⟩ := id fc31
  obtain ⟨T43, X43, e43, st43⟩ := gF X41 hx hZ ho (wd41 hw) Via.refl e41 fc28 84 #[rv a1, rv a2, rv b3, iv o0, iv o0, jv q7, sc, iv o0] [] (hb hy d17_84)
  have fc46 := ((pr8.ext E3).keep K18 (ninS nz19 nin0))
  obtain ⟨T47, X47, e47, st47⟩ := gF X43 hx hZ ho (wd43 hw) Via.refl e43 fc46 91 #[rv a1, rv a2, rv b3, iv o0, iv o0, jv q7, sc, iv o0] [(.long q14)] (hb hy d17_91)
  have nz50 := nl pr9.lt sz_b3
  have fc51 := ((pr9.ext E3).keep K18 (ninS nz50 nin0))
  obtain ⟨T53, X53, e53, st53⟩ := gF X47 hx hZ ho (wd43 hw) Via.refl e47 fc46 150 #[rv a1, rv a2, rv b3, iv o0, iv o0, jv q7, sc, iv o0] [(.long q7), (.ref b3)] (hb hy d17_150)
  have nz56 := nl F_lows_b3.lt u18_0
  have nz57 := nl F_lows_b3.lt u18_1
  have fc58 := (A3.keep K18)
  obtain ⟨_, T55, L55, X55, hQ55, st55⟩ := own_cV X53 hx hZ ho hml (cw28 hw) (rm19_0 l Z a0 hw b3 q7 q48 b18_0 oj0 oj0 kx18_0 b18_1 oj0 oj0 kx18_1 T18.heap n0 OL18 pr11 u18_3 u18_5 u18_6 g_b18_0 u18_4 nz56 u18_8 (Ne.symm u18_2) g_b18_1 nz57 fc58 g_b3 u18_2 (Ne.symm nz56) (Ne.symm nz57)) e53 fc58 156 #[rv a1, rv a2, rv b3, iv o0, iv o0, jv q7, sc, iv o0] [(.long q7), (.long q48)] [] 0 rfl (hb hy d17_156) (by decide)
  obtain ⟨rfl, Nq55, K55, u55_0, u55_1, u55_2, u55_3, u55_4⟩ := hQ55
  have KK55 : Keep h0 T55.heap [] := KK18.trans K55 (allS (Or.inr sz_b18_0) (allS (Or.inr sz_b18_1) (allS (Or.inr sz_b3) all0)))
  have OL55 := OL18.keep K55 (allS g_b18_0 (allS g_b18_1 (allS g_b3 all0)))
  have N55 := Fr.app N18 Nq55
  have nz59 := nl pr8.lt sz_b18_1
  have nz60 := nl pr8.lt sz_b18_0
  have fc61 := (fc20.keep K55 (ninS nz60 (ninS nz59 (ninS nz19 nin0))))
  obtain ⟨T62, X62, e62, st62⟩ := gF X55 hx hZ ho (wd41 hw) Via.refl rfl fc61 27 #[rv a1, rv a2, rv b3, iv o0, iv o1, jv q7, sc, iv o0] [vi1] (hb hy d17_27)
  have nz63 := nl pr2.lt sz_b18_1
  have nz64 := nl pr2.lt sz_b18_0
  have fc65 := (fc23.keep K55 (ninS nz64 (ninS nz63 (ninS nz22 nin0))))
  obtain ⟨cl66, Ar66, -, Sz66, Nn66, -, -⟩ := id fc65
  have fc68 := (fc58.keep K55)
  obtain ⟨_, T67, L67, X67, hQ67, st67⟩ := own_cV X62 hx hZ ho hml (cw35 hw) (rm20_0 l Z a0 hw b3 b18_0 q7 oj0 kx18_0 b18_1 q48 oj0 kx18_1 T55.heap n0 OL55 u55_3 u55_2 u55_0 u55_4 u55_1) e62 fc68 166 #[rv a1, rv a2, rv b3, iv o0, iv o1, jv q7, sc, iv o0] [] [] 0 rfl (hb hy d17_166) (by decide)
  obtain ⟨b67_0, b67_1, b67_2, b67_3, kx67_0, kx67_1, rfl, Nq67, K67, u67_0, u67_1, u67_2, u67_3, u67_4, u67_5, u67_6, u67_7, u67_8, u67_9, u67_10, u67_11, u67_12, u67_13, u67_14, u67_15, u67_16, u67_17, u67_18⟩ := hQ67
  have KK67 : Keep h0 T67.heap [] := KK55.trans K67 all0
  have sz_b67_0 : h0.size ≤ b67_0 := Nat.le_trans KK55.1 u67_0
  have sz_b67_1 : h0.size ≤ b67_1 := Nat.le_trans KK55.1 u67_1
  have sz_b67_2 : h0.size ≤ b67_2 := Nat.le_trans KK55.1 u67_2
  have sz_b67_3 : h0.size ≤ b67_3 := Nat.le_trans KK55.1 u67_3
  have N67 := Fr.app N55 Nq67
  refine ⟨some (.ref b67_0), _, _, _, _, _, X67, rfl, by decide, nofun, fun fs hr => ?_, ?_⟩
  · refine st3 _ ?_
    refine XS.dup X3.here hx rfl (hb hy d17_3) rfl rfl ?_
    refine xaloadN X3 hx hy d17_4 rfl rfl ?_
    refine st6 _ ?_
    refine X6.arraylength hx (by rw [e6]; exact Ar10.1) (State.isArrayOf_alike hZ.alike Ar10.2.1) (g := (mkF m 8 #[rv a1, rv a2, uu, uu, uu, uu, uu, uu] [(.ref a4), (.ref b3), (.ref b3)])) rfl rfl (hb hy d17_8) _ ?_
    rw [len_of Sz10 Nn10]
    refine xaloadN X6 hx hy d17_9 rfl rfl ?_
    refine st13 _ ?_
    refine X13.arraylength hx (by rw [e13]; exact Ar17.1) (State.isArrayOf_alike hZ.alike Ar17.2.1) (g := (mkF m 13 #[rv a1, rv a2, uu, uu, uu, uu, uu, uu] [(.ref a11), vi1, (.ref b3), (.ref b3)])) rfl rfl (hb hy d17_13) _ ?_
    rw [len_of Sz17 Nn17]
    refine XS.iadd X13.here hx rfl (hb hy d17_14) rfl ?_
    refine st18 _ ?_
    refine XS.astoreN X18.here hx rfl (hb hy d17_18) rfl rfl (l' := #[rv a1, rv a2, rv b3, uu, uu, uu, uu, uu]) rfl ?_
    refine XS.iconst X18.here hx rfl (hb hy d17_19) ?_
    refine XS.istoreN X18.here hx rfl (hb hy d17_20) rfl (l' := #[rv a1, rv a2, rv b3, iv o0, uu, uu, uu, uu]) rfl ?_
    refine XS.iconst X18.here hx rfl (hb hy d17_21) ?_
    refine XS.istore X18.here hx rfl (hb hy d17_22) rfl (l' := #[rv a1, rv a2, rv b3, iv o0, iv o0, uu, uu, uu]) rfl ?_
    refine xiload X18 hx hy d17_24 rfl ?_
    refine xaloadN X18 hx hy d17_26 rfl rfl ?_
    refine st21 _ ?_
    refine X21.arraylength hx (by rw [e21]; exact Ar24.1) (State.isArrayOf_alike hZ.alike Ar24.2.1) (g := (mkF m 30 #[rv a1, rv a2, rv b3, iv o0, iv o0, uu, uu, uu] [(.ref a4), vi0])) rfl rfl (hb hy d17_30) _ ?_
    rw [len_of Sz24 Nn24]
    refine XS.icmpNo X21.here hx rfl (hb hy d17_31) rfl (tlt (by decide : o0 < o1)).2.1 ?_
    refine xaloadN X21 hx hy d17_34 rfl rfl ?_
    refine st25 _ ?_
    refine xiload X25 hx hy d17_38 rfl ?_
    refine own_laJ X25 hx hZ e25 fc23 (v := (.long q7)) (by decide) rfl (hb hy d17_40) ?_
    refine XS.lstore X25.here hx rfl (hb hy d17_41) rfl (l' := #[rv a1, rv a2, rv b3, iv o0, iv o0, jv q7, sc, uu]) rfl ?_
    refine xiloadN X25 hx hy d17_43 rfl ?_
    refine xaloadN X25 hx hy d17_44 rfl rfl ?_
    refine st29 _ ?_
    refine X29.arraylength hx (by rw [e29]; exact Ar32.1) (State.isArrayOf_alike hZ.alike Ar32.2.1) (g := (mkF m 48 #[rv a1, rv a2, rv b3, iv o0, iv o0, jv q7, sc, uu] [(.ref a11), vi0])) rfl rfl (hb hy d17_48) _ ?_
    rw [len_of Sz32 Nn32]
    refine XS.icmpNo X29.here hx rfl (hb hy d17_49) rfl (tlt (by decide : o0 < o1)).2.1 ?_
    refine xaloadN X29 hx hy d17_52 rfl rfl ?_
    refine st35 _ ?_
    refine xiloadN X35 hx hy d17_56 rfl ?_
    refine own_laJ X35 hx hZ e35 fc39 (v := (.long q36)) (by decide) rfl (hb hy d17_57) ?_
    refine xlload X35 hx hy d17_58 rfl ?_
    refine XS.lcmp X35.here hx rfl (hb hy d17_60) rfl ?_
    refine XS.ifYes X35.here hx rfl (pc0 := 61) (pc' := 70) rfl (hb hy d17_61) rfl ((if0 _ _).trans (flt ((fun z => pr7 ((lw_lt q36 q7).mp z)) : ¬ ((lcmpW q36 q7) < o0))).2.1) (by decide) (by decide) ?_
    refine xiloadN X35 hx hy d17_70 rfl ?_
    refine XS.istore X35.here hx rfl (hb hy d17_71) rfl (l' := #[rv a1, rv a2, rv b3, iv o0, iv o0, jv q7, sc, iv o0]) rfl ?_
    refine xiload X35 hx hy d17_73 rfl ?_
    refine xaloadN X35 hx hy d17_75 rfl rfl ?_
    refine st41 _ ?_
    refine X41.arraylength hx (by rw [e41]; exact Ar42.1) (State.isArrayOf_alike hZ.alike Ar42.2.1) (g := (mkF m 79 #[rv a1, rv a2, rv b3, iv o0, iv o0, jv q7, sc, iv o0] [(.ref a11), vi0])) rfl rfl (hb hy d17_79) _ ?_
    rw [len_of Sz42 Nn42]
    refine XS.icmpNo X41.here hx rfl (hb hy d17_80) rfl (tlt (by decide : o0 < o1)).2.1 ?_
    refine xaloadN X41 hx hy d17_83 rfl rfl ?_
    refine st43 _ ?_
    refine xiload X43 hx hy d17_87 rfl ?_
    refine own_laJ X43 hx hZ e43 fc31 (v := (.long q14)) (by decide) rfl (hb hy d17_89) ?_
    refine xaloadN X43 hx hy d17_90 rfl rfl ?_
    refine st47 _ ?_
    refine xiload X47 hx hy d17_94 rfl ?_
    show SS p e below T47 m 96 #[rv a1, rv a2, rv b3, iv o0, iv o0, jv q7, sc, iv o0] [vi0, (.ref a45), (.long q14)] _
    refine own_laJ X47 hx hZ e47 fc51 (v := (.long q48)) (by decide) rfl (hb hy d17_96) ?_
    refine XS.lcmp X47.here hx rfl (hb hy d17_97) rfl ?_
    refine XS.ifYes X47.here hx rfl (pc0 := 98) (pc' := 146) rfl (hb hy d17_98) rfl ((if0 _ _).trans (tlt (((lw_gt q14 q48).mpr pr10) : o0 < (lcmpW q14 q48))).2.2.1) (by decide) (by decide) ?_
    refine xaloadN X47 hx hy d17_146 rfl rfl ?_
    refine xlload X47 hx hy d17_147 rfl ?_
    refine xaloadN X47 hx hy d17_149 rfl rfl ?_
    refine st53 _ ?_
    refine xiload X53 hx hy d17_153 rfl ?_
    refine own_laJ X53 hx hZ e53 fc51 (v := (.long q48)) (by decide) rfl (hb hy d17_155) ?_
    refine st55 _ ?_
    refine XS.iinc X55.here hx rfl (hb hy d17_159) rfl (l' := #[rv a1, rv a2, rv b3, iv o0, .val (.int (o0 + o1)), jv q7, sc, iv o0]) rfl ?_
    refine XS.goto X55.here hx rfl (pc0 := 162) (pc' := 24) rfl (hb hy d17_162) (by decide) (by decide) ?_
    refine xiload X55 hx hy d17_24 rfl ?_
    refine xaloadN X55 hx hy d17_26 rfl rfl ?_
    refine st62 _ ?_
    refine X62.arraylength hx (by rw [e62]; exact Ar66.1) (State.isArrayOf_alike hZ.alike Ar66.2.1) (g := (mkF m 30 #[rv a1, rv a2, rv b3, iv o0, iv o1, jv q7, sc, iv o0] [(.ref a4), vi1])) rfl rfl (hb hy d17_30) _ ?_
    rw [len_of Sz66 Nn66]
    refine XS.icmpYes X62.here hx rfl (pc0 := 31) (pc' := 165) rfl (hb hy d17_31) rfl (flt (by decide : ¬ (o1 < o1))).2.1 (by decide) (by decide) ?_
    refine xaloadN X62 hx hy d17_165 rfl rfl ?_
    refine st67 _ ?_
    show SS p e below T67 m 169 #[rv a1, rv a2, rv b3, iv o0, iv o1, jv q7, sc, iv o0] [(.ref b67_0)] _
    exact own_retR X67 hx hret rfl rfl rfl (hb hy d17_169) hr
  · exact ⟨b67_0, b67_1, b67_2, b67_3, kx67_0, kx67_1, rfl, N67, KK67, sz_b67_0, sz_b67_1, sz_b67_2, sz_b67_3, u67_4, u67_5, u67_6, u67_7, u67_8, u67_9, u67_10, u67_11, u67_12, u67_13, u67_14, u67_15, u67_16, u67_17, u67_18⟩
theorem pd_26 : parseMethodDescriptor "(Lshadowsift/core/ValueSet;)Ljava/util/Optional;" = some ⟨[(.object "shadowsift/core/ValueSet")], some (.object "java/util/Optional")⟩ := by decide +kernel
theorem cw36 {a0 Z} (hw : HW a0 Z) : CV a0 Z s45 69 mn17 mn17 s43 1 (.code mn17 prog_63_method_5_code 8 (some (.object s32))) :=
  ⟨wx hw 131 rfl, wx hw 132 rfl, (fun _ hZ => notFace_of_selects (args := #[]) (mvT hZ (wd134 hw))), wx hw 134 rfl, wx hw 133 rfl, wx hw 135 rfl, wx hw 31 rfl, by decide, _, _, pd_26, rfl⟩
theorem d14_19 : DC cb14 19 (.astore_n 3) 1 := by decide +kernel
theorem d14_20 : DC cb14 20 (.aload_n 0) 1 := by decide +kernel
theorem d14_21 : DC cb14 21 (.dup) 1 := by decide +kernel
theorem d14_22 : DC cb14 22 (.getfield 38) 3 := by decide +kernel
theorem d14_25 : DC cb14 25 (.aload_n 3) 1 := by decide +kernel
theorem d14_26 : DC cb14 26 (.invokevirtual 42) 3 := by decide +kernel
theorem d26_0 : DC cb26 0 (.aload_n 0) 1 := by decide +kernel
theorem d26_1 : DC cb26 1 (.getfield 13) 3 := by decide +kernel
theorem d26_4 : DC cb26 4 (.ifnonnull 7) 3 := by decide +kernel
theorem d26_11 : DC cb26 11 (.iconst 0) 1 := by decide +kernel
theorem d26_12 : DC cb26 12 (.ireturn) 1 := by decide +kernel
theorem ef_26_36 (m : MethodId) (x0 : Addr) : entryFrame m #[(.ref x0)] 1 = mkF m 0 #[.val (.ref x0)] [] := by first | (simp [entryFrame, mkF, argsToLocals, Value.category]; done) | rfl
theorem rm26_0 (l : Launch) (Z : State) (a0 : Array Value) (hw : HW a0 Z) (a1 a2 : Addr) (h0 : Heap) (n0 : Nat) (OL0 : Old Z n0 h0) (pr1 : Fld Z h0 a1 s32 "value" s3 (.ref a2)) :
    MF l Z mn26 jdk_32_method_7_code 1 (some .boolean) ⟨0, 0, 0, 0⟩ #[(.ref a1)] h0 (QR n0 h0 (some vi0)) := by
  refine own_start (plainFor_of_name pn_14) (fun m => (ef_26_36 m a1)) ?_
  intro p e s m below meth c s₁ hZ hx hy hml ho hnm hret X0 e0
  have N0 := Fr.nil n0
  obtain ⟨T3, X3, e3, st3⟩ := gF X0 hx hZ ho (wd188 hw) Via.refl e0 pr1 1 #[rv a1] [] (hb hy d26_1)
  refine ⟨some vi0, _, _, _, _, _, X3, e3, by decide, nofun, fun fs hr => ?_, ?_⟩
  · refine xaloadN X0 hx hy d26_0 rfl rfl ?_
    refine st3 _ ?_
    refine XS.ifnonnullYes X3.here hx rfl (pc0 := 4) (pc' := 11) rfl (hb hy d26_4) rfl (by decide) (by decide) ?_
    refine XS.iconst X3.here hx rfl (hb hy d26_11) ?_
    show SS p e below T3 m 12 #[rv a1] [vi0] _
    exact retN X3 hx (t := .boolean) hret (by simp) (hb hy d26_12) hr
  · exact ⟨rfl, N0, rfl⟩
theorem cw37 {a0 Z} (hw : HW a0 Z) : CV a0 Z s45 42 mn26 mn26 s32 0 (.code mn26 jdk_32_method_7_code 1 (some .boolean)) :=
  ⟨wx hw 192 rfl, wx hw 193 rfl, (fun _ hZ => notFace_of_selects (args := #[]) (mvT hZ (wd195 hw))), wx hw 195 rfl, wx hw 194 rfl, wx hw 196 rfl, wx hw 175 rfl, by decide, _, _, pd_8, rfl⟩
theorem d14_29 : DC cb14 29 (.ior) 1 := by decide +kernel
theorem d14_30 : DC cb14 30 (.putfield 38) 3 := by decide +kernel
theorem d14_33 : DC cb14 33 (.aload_n 3) 1 := by decide +kernel
theorem d14_34 : DC cb14 34 (.aload_n 0) 1 := by decide +kernel
theorem d14_35 : DC cb14 35 (.iload_n 1) 1 := by decide +kernel
theorem d14_36 : DC cb14 36 (.invokedynamic 72) 5 := by decide +kernel
theorem d14_41 : DC cb14 41 (.invokevirtual 52) 3 := by decide +kernel
theorem d27_0 : DC cb27 0 (.aload_n 0) 1 := by decide +kernel
theorem d27_1 : DC cb27 1 (.getfield 13) 3 := by decide +kernel
theorem d27_4 : DC cb27 4 (.ifnull 13) 3 := by decide +kernel
theorem d27_7 : DC cb27 7 (.aload_n 1) 1 := by decide +kernel
theorem d27_8 : DC cb27 8 (.aload_n 0) 1 := by decide +kernel
theorem d27_9 : DC cb27 9 (.getfield 13) 3 := by decide +kernel
theorem d27_12 : DC cb27 12 (.invokeinterface 33 2) 5 := by decide +kernel
theorem d28_0 : DC cb28 0 (.aload_n 0) 1 := by decide +kernel
theorem d28_1 : DC cb28 1 (.iload_n 1) 1 := by decide +kernel
theorem d28_2 : DC cb28 2 (.aload_n 2) 1 := by decide +kernel
theorem d28_3 : DC cb28 3 (.invokevirtual 167) 3 := by decide +kernel
theorem cw38 {a0 Z} (hw : HW a0 Z) : CV a0 Z s45 167 mn29 mn29 s45 2 (.code mn29 prog_66_method_2_code 4 none) :=
  ⟨wx hw 213 rfl, wx hw 214 rfl, (fun _ hZ => notFace_of_selects (args := #[]) (mvT hZ (wd216 hw))), wx hw 216 rfl, wx hw 215 rfl, wx hw 217 rfl, wx hw 47 rfl, by decide, _, _, pd_9, rfl⟩
theorem d28_6 : DC cb28 6 (.return_) 1 := by decide +kernel
theorem ef_28_37 (m : MethodId) (x0 : Addr) (x1 : Int32) (x2 : Addr) : entryFrame m #[(.ref x0), (.int x1), (.ref x2)] 3 = mkF m 0 #[.val (.ref x0), .val (.int x1), .val (.ref x2)] [] := by first | (simp [entryFrame, mkF, argsToLocals, Value.category]; done) | rfl
theorem rm28_0 (l : Launch) (Z : State) (a0 : Array Value) (hw : HW a0 Z) (a1 : Addr) (p2 : Int32) (a3 a4 : Addr) (k5 : ClassId) (h0 : Heap) (n0 : Nat) (OL0 : Old Z n0 h0) (pr1 : Fld Z h0 a1 s45 "sets" s8 (.ref a4)) (pr2 : Asl Z h0 a4 k5 tV o12 p2 .null) (pr3 : n0 ≤ a4) (pr4 : Ovr Z k5 s43) (pr5 : Exa Z h0 a3 s43) (pr6 : Exa Z h0 a1 s45) :
    MF l Z mn28 prog_66_method_13_code 3 none ⟨1, 0, 0, 15⟩ #[(.ref a1), (.int p2), (.ref a3)] h0 (fun v h L => v = none ∧ Fr n0 L ∧ Keep h0 h [a4] ∧ Asl Z h a4 k5 tV o12 p2 (.ref a3)) := by
  refine own_start (plainFor_of_name pn_7) (fun m => (ef_28_37 m a1 p2 a3)) ?_
  intro p e s m below meth c s₁ hZ hx hy hml ho hnm hret X0 e0
  have N0 := Fr.nil n0
  obtain ⟨_, T6, L6, X6, hQ6, st6⟩ := own_cV X0 hx hZ ho hml (cw38 hw) (rm29_0 l Z a0 hw a1 p2 a3 a4 k5 h0 n0 OL0 pr1 pr2 pr3 pr4 pr5) e0 pr6 3 #[rv a1, iv p2, rv a3] [(.int p2), (.ref a3)] [] 0 rfl (hb hy d28_3) (by decide)
  obtain ⟨rfl, Nq6, K6, u6_0⟩ := hQ6
  have KK6 : Keep h0 T6.heap [a4] := (Keep.refl h0 [a4]).trans K6 (allS (Or.inl (List.mem_of_getElem? (i := 0) rfl)) all0)
  have N6 := Fr.app N0 Nq6
  refine ⟨none, _, _, _, _, _, X6, rfl, by decide, fun _ => rfl, fun fs hr => ?_, ?_⟩
  · refine xaloadN X0 hx hy d28_0 rfl rfl ?_
    refine xiloadN X0 hx hy d28_1 rfl ?_
    refine xaloadN X0 hx hy d28_2 rfl rfl ?_
    refine st6 _ ?_
    show SS p e below T6 m 6 #[rv a1, iv p2, rv a3] [] _
    exact X6.returnOut hx hret (hb hy d28_6) hr
  · exact ⟨rfl, N6, KK6, u6_0⟩
theorem cl1 {a0 Z} (hw : HW a0 Z) : CL a0 Z s32 33 (sgm s34) mn28 prog_66_method_13_code 3 :=
  ⟨wx hw 206 rfl, wx hw 207 rfl, ⟨wx hw 208 rfl, by first | rfl | simp [Cond.onTables, Cond.keepsFace, Cond.keeps, Cond.steady]⟩, wx hw 210 rfl, fun _ hZ => Cond.privateMethod_at (mvP hZ (wx hw 211 rfl) (args := #[])), wx hw 212 rfl, wx hw 47 rfl, wx hw 200 rfl, own_lok1, ⟨rfl, rfl, by decide +kernel⟩, ⟨rfl, rfl, by decide +kernel⟩, by decide, rfl, ⟨_, _, pd_9, rfl⟩⟩
theorem d27_17 : DC cb27 17 (.return_) 1 := by decide +kernel
theorem ef_27_38 (m : MethodId) (x0 : Addr) (x1 : Addr) : entryFrame m #[(.ref x0), (.ref x1)] 2 = mkF m 0 #[.val (.ref x0), .val (.ref x1)] [] := by first | (simp [entryFrame, mkF, argsToLocals, Value.category]; done) | rfl
theorem rm27_0 (l : Launch) (Z : State) (a0 : Array Value) (hw : HW a0 Z) (a1 a2 a3 a6 : Addr) (p7 : Int32) (a8 : Addr) (k9 : ClassId) (h0 : Heap) (n0 : Nat) (OL0 : Old Z n0 h0) (pr1 : Fld Z h0 a1 s32 "value" s3 (.ref a3)) (pr2 : LamF Z h0 a2 (sgm s34) a6 p7) (pr3 : Fld Z h0 a6 s45 "sets" s8 (.ref a8)) (pr4 : Asl Z h0 a8 k9 tV o12 p7 .null) (pr5 : n0 ≤ a8) (pr6 : Ovr Z k9 s43) (pr7 : Exa Z h0 a3 s43) (pr8 : Exa Z h0 a6 s45) :
    MF l Z mn27 jdk_32_method_8_code 2 none ⟨3, 0, 0, 42⟩ #[(.ref a1), (.ref a2)] h0 (fun v h L => v = none ∧ Fr n0 L ∧ Keep h0 h [a8] ∧ Asl Z h a8 k9 tV o12 p7 (.ref a3)) := by
  refine own_start (plainFor_of_name pn_14) (fun m => (ef_27_38 m a1 a2)) ?_
  intro p e s m below meth c s₁ hZ hx hy hml ho hnm hret X0 e0
  have N0 := Fr.nil n0
  obtain ⟨T4, X4, e4, st4⟩ := gF X0 hx hZ ho (wd188 hw) Via.refl e0 pr1 1 #[rv a1, rv a2] [] (hb hy d27_1)
  obtain ⟨T5, X5, e5, st5⟩ := gF X4 hx hZ ho (wd188 hw) Via.refl e4 pr1 9 #[rv a1, rv a2] [(.ref a2)] (hb hy d27_9)
  obtain ⟨_, T10, L10, X10, hQ10, st10⟩ := own_cL X5 hx hZ ho hml (cl1 hw) (rm28_0 l Z a0 hw a6 p7 a3 a8 k9 h0 n0 OL0 pr3 pr4 pr5 pr6 pr7 pr8) e5 pr2 pr8 pr7 12 #[rv a1, rv a2] [] 0 rfl (hb hy d27_12) (by decide) (by rintro _ _ _ ⟨q, -⟩; exact q)
  obtain ⟨rfl, Nq10, K10, u10_0⟩ := hQ10
  have KK10 : Keep h0 T10.heap [a8] := (Keep.refl h0 [a8]).trans K10 (allS (Or.inl (List.mem_of_getElem? (i := 0) rfl)) all0)
  have N10 := Fr.app N0 Nq10
  refine ⟨none, _, _, _, _, _, X10, rfl, by decide, fun _ => rfl, fun fs hr => ?_, ?_⟩
  · refine xaloadN X0 hx hy d27_0 rfl rfl ?_
    refine st4 _ ?_
    refine XS.ifnullNo X4.here hx rfl (hb hy d27_4) rfl ?_
    refine xaloadN X4 hx hy d27_7 rfl rfl ?_
    refine xaloadN X4 hx hy d27_8 rfl rfl ?_
    refine st5 _ ?_
    refine st10 _ ?_
    show SS p e below T10 m 17 #[rv a1, rv a2] [] _
    exact X10.returnOut hx hret (hb hy d27_17) hr
  · exact ⟨rfl, N10, KK10, u10_0⟩
theorem pd_27 : parseMethodDescriptor "(Ljava/util/function/Consumer;)V" = some ⟨[(.object "java/util/function/Consumer")], none⟩ := by decide +kernel
theorem cw39 {a0 Z} (hw : HW a0 Z) : CV a0 Z s45 52 mn27 mn27 s32 1 (.code mn27 jdk_32_method_8_code 2 none) :=
  ⟨wx hw 201 rfl, wx hw 202 rfl, (fun _ hZ => notFace_of_selects (args := #[]) (mvT hZ (wd204 hw))), wx hw 204 rfl, wx hw 203 rfl, wx hw 205 rfl, wx hw 175 rfl, by decide, _, _, pd_27, rfl⟩
theorem d14_44 : DC cb14 44 (.return_) 1 := by decide +kernel
theorem ef_14_39 (m : MethodId) (x0 : Addr) (x1 : Int32) (x2 : Addr) : entryFrame m #[(.ref x0), (.int x1), (.ref x2)] 4 = mkF m 0 #[.val (.ref x0), .val (.int x1), .val (.ref x2), .unset] [] := by first | (simp [entryFrame, mkF, argsToLocals, Value.category]; done) | rfl
theorem rm14_0 (l : Launch) (Z : State) (a0 : Array Value) (hw : HW a0 Z) (a1 : Addr) (p2 : Int32) (a3 w4 w6 w7 : Addr) (k8 : ClassId) (q11 : Int64) (a13 : Addr) (q14 : Int64) (k15 : ClassId) (a16 : Addr) (q17 : Int64) (k18 : ClassId) (p24 : Int32) (a31 : Addr) (k32 : ClassId) (a41 a44 : Addr) (p47 : Int32) (h0 : Heap) (n0 : Nat) (OL0 : Old Z n0 h0) (pr1 : Sta Z Z.heap s45 s2 s5 (.ref w4)) (pr2 : Fld Z Z.heap w4 s29 s13 s7 (.ref w6)) (pr3 : Asl Z Z.heap w6 k8 (.object s20) o12 p2 (.ref w7)) (pr4 : Exa Z Z.heap w4 s29) (pr5 : Exa Z Z.heap w7 s42) (pr6 : Fld Z Z.heap w7 s42 "low" "J" lj0) (pr7 : Fld Z Z.heap w7 s42 "high" "J" (.long q11)) (pr8 : ¬ (q11 < oj0)) (pr9 : ¬ ((281474976710656 : Int64) < q11)) (pr10 : Fld Z h0 a3 s43 "lows" "[J" (.ref a13)) (pr11 : Arv Z h0 a13 k15 .long o1 [(.long q14)] lj0) (pr12 : Fld Z h0 a3 s43 "highs" "[J" (.ref a16)) (pr13 : Arv Z h0 a16 k18 .long o1 [(.long q17)] lj0) (pr14 : ¬ (q17 < oj0)) (pr15 : q11 < q14) (pr16 : Fld Z h0 a1 s45 s15 "Z" (.int p24)) (pr17 : Exa Z h0 a1 s45) (pr18 : n0 ≤ a1) (pr19 : Fld Z h0 a1 s45 "sets" s8 (.ref a31)) (pr20 : Asl Z h0 a31 k32 tV o12 p2 .null) (pr21 : a31 ≠ a1) (pr22 : n0 ≤ a31) (pr23 : Ovr Z k32 s43) (pr24 : Fld Z h0 a1 s45 s11 s5 (.ref a41)) (pr25 : a1 ≠ a31) (pr26 : Fld Z h0 a1 s45 s16 s5 (.ref a44)) (pr27 : Fld Z h0 a1 s45 s48 "Z" (.int p47)) :
    MF l Z mn14 prog_66_method_6_code 4 none ⟨5, 11, 18, 3075⟩ #[(.ref a1), (.int p2), (.ref a3)] h0 (fun v h L => ∃ b19_1 b19_2 b19_3 : Addr, ∃ kx19_0 : ClassId, ∃ kx19_1 : ClassId, v = none ∧ Fr n0 L ∧ Keep h0 h [a1, a31] ∧ h0.size ≤ b19_1 ∧ h0.size ≤ b19_2 ∧ h0.size ≤ b19_3 ∧ b19_1 ≠ b19_2 ∧ b19_1 ≠ b19_3 ∧ b19_2 ≠ b19_3 ∧ Fld Z h a1 s45 s15 "Z" (.int (nar .boolean (p24 ||| o0))) ∧ Fld Z h a1 s45 "sets" s8 (.ref a31) ∧ Fld Z h a1 s45 s11 s5 (.ref a41) ∧ Fld Z h a1 s45 s16 s5 (.ref a44) ∧ Fld Z h a1 s45 s48 "Z" (.int p47) ∧ Asl Z h a31 k32 tV o12 p2 (.ref b19_1) ∧ Exa Z h b19_1 s43 ∧ Fld Z h b19_1 s43 "lows" "[J" (.ref b19_2) ∧ Fld Z h b19_1 s43 "highs" "[J" (.ref b19_3) ∧ Arv Z h b19_2 kx19_0 .long o1 [lj0] lj0 ∧ Exa Z h b19_2 "[J" ∧ Arv Z h b19_3 kx19_1 .long o1 [(.long q11)] lj0 ∧ Exa Z h b19_3 "[J") := by
  refine own_startN (plainFor_of_name pn_7) (fun m => (ef_14_39 m a1 p2 a3)) ?_
  intro p e s m below meth c s₁ hZ hx hy hml ho hnm hnamed hret X0 e0
  have N0 := Fr.nil n0
  obtain ⟨T5, X5, e5, st5⟩ := getS2 X0 hx hZ ho (host := "") (Or.inl (wd52 hw)) Via.refl e0 (pr1.ext OL0.2) (g := (mkF m 0 #[rv a1, iv p2, rv a3, uu] [])) rfl (hb hy d14_0)
  obtain ⟨_, T9, L9, X9, hQ9, st9⟩ := own_cI X5 hx hZ ho hml (cw24 hw) (rm15_0 l Z a0 hw w4 p2 w6 w7 k8 h0 n0 OL0 pr2 pr3) e5 (pr4.ext OL0.2) 4 #[rv a1, iv p2, rv a3, uu] [(.int p2)] [] 0 rfl (hb hy d14_4) (by decide)
  obtain ⟨rfl, Nq9, ec9⟩ := hQ9
  have N9 := Fr.app N0 Nq9
  obtain ⟨T10, X10, e10, st10⟩ := castY X9 hx hZ ho (wd118 hw) ec9 (Ins.self (pr5.ext OL0.2)) (g := (mkF m 9 #[rv a1, iv p2, rv a3, uu] [(.ref w7)])) rfl rfl (hb hy d14_9)
  obtain ⟨_, T12, L12, X12, hQ12, st12⟩ := own_cV X10 hx hZ ho hml (cw26 hw) (rm16_0 l Z a0 hw w7 q11 h0 n0 OL0 pr6 pr7 pr8 pr9) e10 (pr5.ext OL0.2) 12 #[rv a1, iv p2, rv a3, uu] [] [] 0 rfl (hb hy d14_12) (by decide)
  obtain ⟨b12_0, b12_1, b12_2, kx12_0, kx12_1, rfl, Nq12, K12, u12_0, u12_1, u12_2, u12_3, u12_4, u12_5, u12_6, u12_7, u12_8, u12_9, u12_10, u12_11, u12_12⟩ := hQ12
  have KK12 : Keep h0 T12.heap [a1, a31] := (Keep.refl h0 [a1, a31]).trans K12 all0
  have OL12 := OL0.keep K12 all0
  have N12 := Fr.app N9 Nq12
  have fc20 := (pr10.keep K12 nin0)
  have fc21 := (pr11.keep K12 nin0)
  have fc22 := (pr12.keep K12 nin0)
  have fc23 := (pr13.keep K12 nin0)
  obtain ⟨_, T19, L19, X19, hQ19, st19⟩ := own_cV X12 hx hZ ho hml (cw36 hw) (rm17_0 l Z a0 hw b12_0 a3 b12_1 oj0 kx12_0 a13 q14 k15 a16 q17 k18 b12_2 q11 kx12_1 T12.heap n0 OL12 u12_7 u12_9 fc20 fc21 fc22 fc23 pr14 u12_8 u12_11 pr15 pr8) rfl u12_6 16 #[rv a1, iv p2, rv a3, uu] [(.ref a3)] [] 0 rfl (hb hy d14_16) (by decide)
  obtain ⟨b19_0, b19_1, b19_2, b19_3, kx19_0, kx19_1, rfl, Nq19, K19, u19_0, u19_1, u19_2, u19_3, u19_4, u19_5, u19_6, u19_7, u19_8, u19_9, u19_10, u19_11, u19_12, u19_13, u19_14, u19_15, u19_16, u19_17, u19_18⟩ := hQ19
  have KK19 : Keep h0 T19.heap [a1, a31] := KK12.trans K19 all0
  have OL19 := OL12.keep K19 all0
  have sz_b19_0 : h0.size ≤ b19_0 := Nat.le_trans KK12.1 u19_0
  have sz_b19_1 : h0.size ≤ b19_1 := Nat.le_trans KK12.1 u19_1
  have sz_b19_2 : h0.size ≤ b19_2 := Nat.le_trans KK12.1 u19_2
  have sz_b19_3 : h0.size ≤ b19_3 := Nat.le_trans KK12.1 u19_3
  have N19 := Fr.app N12 Nq19
  have fc25 := ((pr16.keep K12 nin0).keep K19 nin0)
  obtain ⟨T26, X26, e26, st26⟩ := gF X19 hx hZ ho (wd190 hw) Via.refl rfl fc25 22 #[rv a1, iv p2, rv a3, rv b19_0] [(.ref a1)] (hb hy d14_22)
  obtain ⟨_, T27, L27, X27, hQ27, st27⟩ := own_cV X26 hx hZ ho hml (cw37 hw) (rm26_0 l Z a0 hw b19_0 b19_1 T19.heap n0 OL19 u19_11) e26 u19_10 26 #[rv a1, iv p2, rv a3, rv b19_0] [] [(.int p24), (.ref a1)] 2 rfl (hb hy d14_26) (by decide)
  obtain ⟨rfl, Nq27, ec27⟩ := hQ27
  have N27 := Fr.app N19 Nq27
  have fc28 := ((pr17.keep K12).keep K19)
  obtain ⟨T29, h29, X29, e29, W29, st29⟩ := putFN X27 hx hZ ho (wd190 hw) Via.refl ec27 fc25 fc28 (Or.inl (wd191 hw)) (wd46 hw) (ty := .boolean) (v' := (.int (nar .boolean (p24 ||| o0)))) (by decide) rfl (fits_nar_bool _) (g := (mkF m 30 #[rv a1, iv p2, rv a3, rv b19_0] [(.int (p24 ||| o0)), (.ref a1)])) rfl rfl (hb hy d14_30)
  have Fw29 := fc25.same W29
  have KK29 : Keep h0 h29 [a1, a31] := KK19.wr W29 (Or.inl (List.mem_of_getElem? (i := 0) rfl))
  have OL29 := OL19.wr W29 pr18
  have N29 := Fr.snoc X29 N27 pr18
  obtain ⟨T30, h30, X30, e30, E30, LM30, st30⟩ := own_mk X29 hx hZ hml hnamed (wd197 hw) (wd200 hw) own_lok1 rfl rfl e29 a1 p2 #[rv a1, iv p2, rv a3, rv b19_0] [(.ref b19_0)] rfl (hb hy d14_36) (by decide) (by decide) (W := 1) rfl (by decide)
  obtain ⟨b30, g30⟩ : ∃ z, z = h29.size := ⟨_, rfl⟩
  rw [← g30] at LM30 st30
  have KK30 : Keep h0 h30 [a1, a31] := KK29.ext E30
  have OL30 := OL29.ext E30
  have nz34 := nl pr17.lt sz_b19_0
  have fc35 := ((u19_11.other W29 (Or.inl (Ne.symm nz34))).ext E30)
  have fc36 := ((((pr19.keep K12 nin0).keep K19 nin0).other W29 (Or.inr (slot_ne (Or.inr (wd69 hw)) (Or.inl (wd191 hw)) (by decide) (t := (.array tV)) (t' := .boolean) (by decide) (by decide)))).ext E30)
  have fc37 := ((((pr20.keep K12 nin0).keep K19 nin0).other W29 pr21).ext E30)
  have fc38 := ((u19_12.wr W29).ext E30)
  have fc39 := ((fc28.wr W29).ext E30)
  have fc40 := ((u19_10.wr W29).ext E30)
  obtain ⟨_, T33, L33, X33, hQ33, st33⟩ := own_cV X30 hx hZ ho hml (cw39 hw) (rm27_0 l Z a0 hw b19_0 b30 b19_1 a1 p2 a31 k32 h30 n0 OL30 fc35 LM30 fc36 fc37 pr22 pr23 fc38 fc39) e30 fc40 41 #[rv a1, iv p2, rv a3, rv b19_0] [(.ref b30)] [] 0 rfl (hb hy d14_41) (by decide)
  obtain ⟨rfl, Nq33, K33, u33_0⟩ := hQ33
  have KK33 : Keep h0 T33.heap [a1, a31] := KK30.trans K33 (allS (Or.inl (List.mem_of_getElem? (i := 1) rfl)) all0)
  have N33 := Fr.app N29 Nq33
  have fc42 := (((((pr24.keep K12 nin0).keep K19 nin0).other W29 (Or.inr (slot_ne (Or.inr (wd97 hw)) (Or.inl (wd191 hw)) (by decide) (t := (.object s30)) (t' := .boolean) (by decide) (by decide)))).ext E30).keep K33 (ninS pr25 nin0))
  have fc43 := ((Fw29.ext E30).keep K33 (ninS pr25 nin0))
  have fc45 := (((((pr26.keep K12 nin0).keep K19 nin0).other W29 (Or.inr (slot_ne (Or.inr (wd95 hw)) (Or.inl (wd191 hw)) (by decide) (t := (.object s30)) (t' := .boolean) (by decide) (by decide)))).ext E30).keep K33 (ninS pr25 nin0))
  have fc46 := (fc36.keep K33 (ninS pr25 nin0))
  have fc48 := (((((pr27.keep K12 nin0).keep K19 nin0).other W29 (Or.inr (slot_ne (Or.inl (wd104 hw)) (Or.inl (wd191 hw)) (by decide) (t := .boolean) (t' := .boolean) (by decide) (by decide)))).ext E30).keep K33 (ninS pr25 nin0))
  have fc49 := (fc38.keep K33)
  have nz50 := nl pr27.lt sz_b19_1
  have nz51 := nl pr20.lt sz_b19_1
  have fc52 := (((u19_13.other W29 (Or.inl (Ne.symm nz50))).ext E30).keep K33 (ninS (Ne.symm nz51) nin0))
  have fc53 := (((u19_14.other W29 (Or.inl (Ne.symm nz50))).ext E30).keep K33 (ninS (Ne.symm nz51) nin0))
  have nz54 := nl pr27.lt sz_b19_2
  have nz55 := nl pr20.lt sz_b19_2
  have fc56 := (((u19_15.other W29 (Ne.symm nz54)).ext E30).keep K33 (ninS (Ne.symm nz55) nin0))
  have fc57 := (((u19_16.wr W29).ext E30).keep K33)
  have nz58 := nl pr27.lt sz_b19_3
  have nz59 := nl pr20.lt sz_b19_3
  have fc60 := (((u19_17.other W29 (Ne.symm nz58)).ext E30).keep K33 (ninS (Ne.symm nz59) nin0))
  have fc61 := (((u19_18.wr W29).ext E30).keep K33)
  refine ⟨none, _, _, _, _, _, X33, rfl, by decide, fun _ => rfl, fun fs hr => ?_, ?_⟩
  · refine st5 _ ?_
    refine xiloadN X5 hx hy d14_3 rfl ?_
    refine st9 _ ?_
    refine st10 _ ?_
    refine st12 _ ?_
    refine xaloadN X12 hx hy d14_15 rfl rfl ?_
    refine st19 _ ?_
    refine XS.astoreN X19.here hx rfl (hb hy d14_19) rfl rfl (l' := #[rv a1, iv p2, rv a3, rv b19_0]) rfl ?_
    refine xaloadN X19 hx hy d14_20 rfl rfl ?_
    refine XS.dup X19.here hx rfl (hb hy d14_21) rfl rfl ?_
    refine st26 _ ?_
    refine xaloadN X26 hx hy d14_25 rfl rfl ?_
    refine st27 _ ?_
    refine XS.ior X27.here hx rfl (hb hy d14_29) rfl ?_
    refine st29 _ ?_
    refine xaloadN X29 hx hy d14_33 rfl rfl ?_
    refine xaloadN X29 hx hy d14_34 rfl rfl ?_
    refine xiloadN X29 hx hy d14_35 rfl ?_
    refine st30 _ ?_
    refine st33 _ ?_
    show SS p e below T33 m 44 #[rv a1, iv p2, rv a3, rv b19_0] [] _
    exact X33.returnOut hx hret (hb hy d14_44) hr
  · exact ⟨b19_1, b19_2, b19_3, kx19_0, kx19_1, rfl, N33, KK33, sz_b19_1, sz_b19_2, sz_b19_3, u19_7, u19_8, u19_9, fc43, fc46, fc42, fc45, fc48, u33_0, fc49, fc52, fc53, fc56, fc57, fc60, fc61⟩
theorem cw40 {a0 Z} (hw : HW a0 Z) : CV a0 Z s47 35 mn14 mn14 s45 2 (.code mn14 prog_66_method_6_code 4 none) :=
  ⟨wx hw 105 rfl, wx hw 106 rfl, (fun _ hZ => notFace_of_selects (args := #[]) (mvT hZ (wd108 hw))), wx hw 108 rfl, wx hw 107 rfl, wx hw 109 rfl, wx hw 47 rfl, by decide, _, _, pd_9, rfl⟩
theorem d29_17 : DC cb29 17 (.aload_n 0) 1 := by decide +kernel
theorem d29_18 : DC cb29 18 (.getfield 21) 3 := by decide +kernel
theorem d29_21 : DC cb29 21 (.iload_n 1) 1 := by decide +kernel
theorem d29_22 : DC cb29 22 (.aaload) 1 := by decide +kernel
theorem d29_23 : DC cb29 23 (.aload_n 2) 1 := by decide +kernel
theorem d29_24 : DC cb29 24 (.invokevirtual 34) 3 := by decide +kernel
theorem d36_0 : DC cb36 0 (.new 97) 3 := by decide +kernel
theorem d36_3 : DC cb36 3 (.dup) 1 := by decide +kernel
theorem d36_4 : DC cb36 4 (.aload_n 0) 1 := by decide +kernel
theorem d36_5 : DC cb36 5 (.getfield 7) 3 := by decide +kernel
theorem d36_8 : DC cb36 8 (.arraylength) 1 := by decide +kernel
theorem d36_9 : DC cb36 9 (.aload_n 1) 1 := by decide +kernel
theorem d36_10 : DC cb36 10 (.getfield 7) 3 := by decide +kernel
theorem d36_13 : DC cb36 13 (.arraylength) 1 := by decide +kernel
theorem d36_14 : DC cb36 14 (.iadd) 1 := by decide +kernel
theorem d36_15 : DC cb36 15 (.invokespecial 99) 3 := by decide +kernel
theorem d36_18 : DC cb36 18 (.astore_n 2) 1 := by decide +kernel
theorem d36_19 : DC cb36 19 (.iconst 0) 1 := by decide +kernel
theorem d36_20 : DC cb36 20 (.istore_n 3) 1 := by decide +kernel
theorem d36_21 : DC cb36 21 (.iconst 0) 1 := by decide +kernel
theorem d36_22 : DC cb36 22 (.istore 4) 2 := by decide +kernel
theorem d36_24 : DC cb36 24 (.iload_n 3) 1 := by decide +kernel
theorem d36_25 : DC cb36 25 (.aload_n 0) 1 := by decide +kernel
theorem d36_26 : DC cb36 26 (.getfield 7) 3 := by decide +kernel
theorem d36_29 : DC cb36 29 (.arraylength) 1 := by decide +kernel
theorem d36_30 : DC cb36 30 (.if_icmp .ge 78) 3 := by decide +kernel
theorem d36_33 : DC cb36 33 (.iload 4) 2 := by decide +kernel
theorem d36_35 : DC cb36 35 (.aload_n 1) 1 := by decide +kernel
theorem d36_36 : DC cb36 36 (.getfield 7) 3 := by decide +kernel
theorem d36_39 : DC cb36 39 (.arraylength) 1 := by decide +kernel
theorem d36_40 : DC cb36 40 (.if_icmp .ge 68) 3 := by decide +kernel
theorem d36_43 : DC cb36 43 (.aload_n 2) 1 := by decide +kernel
theorem d36_44 : DC cb36 44 (.aload_n 0) 1 := by decide +kernel
theorem d36_45 : DC cb36 45 (.getfield 7) 3 := by decide +kernel
theorem d36_48 : DC cb36 48 (.iload_n 3) 1 := by decide +kernel
theorem d36_49 : DC cb36 49 (.laload) 1 := by decide +kernel
theorem d36_50 : DC cb36 50 (.aload_n 1) 1 := by decide +kernel
theorem d36_51 : DC cb36 51 (.getfield 7) 3 := by decide +kernel
theorem d36_54 : DC cb36 54 (.iload 4) 2 := by decide +kernel
theorem d36_56 : DC cb36 56 (.laload) 1 := by decide +kernel
theorem d36_57 : DC cb36 57 (.invokestatic 87) 3 := by decide +kernel
theorem d37_0 : DC cb37 0 (.lload_n 0) 1 := by decide +kernel
theorem d37_1 : DC cb37 1 (.lload_n 2) 1 := by decide +kernel
theorem d37_2 : DC cb37 2 (.lcmp) 1 := by decide +kernel
theorem d37_3 : DC cb37 3 (.ifCond .lt 7) 3 := by decide +kernel
theorem d37_10 : DC cb37 10 (.lload_n 2) 1 := by decide +kernel
theorem d37_11 : DC cb37 11 (.lreturn) 1 := by decide +kernel
theorem ef_37_40 (m : MethodId) (x0 : Int64) (x1 : Int64) : entryFrame m #[(.long x0), (.long x1)] 4 = mkF m 0 #[.val (.long x0), .second, .val (.long x1), .second] [] := by first | (simp [entryFrame, mkF, argsToLocals, Value.category]; done) | rfl
theorem rm37_0 (l : Launch) (Z : State) (a0 : Array Value) (hw : HW a0 Z) (q1 q2 : Int64) (h0 : Heap) (n0 : Nat) (OL0 : Old Z n0 h0) (pr1 : q1 < q2) :
    MF l Z mn37 jdk_29_method_66_code 4 (some .long) ⟨0, 0, 0, 0⟩ #[(.long q1), (.long q2)] h0 (QR n0 h0 (some (.long q2))) := by
  refine own_start (Jvm.Free.JP.mathPlain rfl (by decide +kernel)) (fun m => (ef_37_40 m q1 q2)) ?_
  intro p e s m below meth c s₁ hZ hx hy hml ho hnm hret X0 e0
  have N0 := Fr.nil n0
  refine ⟨some (.long q2), _, _, _, _, _, X0, e0, by decide, nofun, fun fs hr => ?_, ?_⟩
  · refine xlloadN X0 hx hy d37_0 rfl ?_
    refine xlloadN X0 hx hy d37_1 rfl ?_
    refine XS.lcmp X0.here hx rfl (hb hy d37_2) rfl ?_
    refine XS.ifYes X0.here hx rfl (pc0 := 3) (pc' := 10) rfl (hb hy d37_3) rfl ((if0 _ _).trans (tlt (((lw_lt q1 q2).mpr pr1) : (lcmpW q1 q2) < o0)).1) (by decide) (by decide) ?_
    refine xlloadN X0 hx hy d37_10 rfl ?_
    show SS p e below s₁ m 11 #[jv q1, sc, jv q2, sc] [(.long q2)] _
    exact own_retJ X0 hx hret (hb hy d37_11) hr
  · exact ⟨rfl, N0, rfl⟩
theorem d37_6 : DC cb37 6 (.lload_n 0) 1 := by decide +kernel
theorem d37_7 : DC cb37 7 (.goto 4) 3 := by decide +kernel
theorem rm37_1 (l : Launch) (Z : State) (a0 : Array Value) (hw : HW a0 Z) (q1 q2 : Int64) (h0 : Heap) (n0 : Nat) (OL0 : Old Z n0 h0) (pr1 : ¬ (q1 < q2)) :
    MF l Z mn37 jdk_29_method_66_code 4 (some .long) ⟨0, 0, 0, 0⟩ #[(.long q1), (.long q2)] h0 (QR n0 h0 (some (.long q1))) := by
  refine own_start (Jvm.Free.JP.mathPlain rfl (by decide +kernel)) (fun m => (ef_37_40 m q1 q2)) ?_
  intro p e s m below meth c s₁ hZ hx hy hml ho hnm hret X0 e0
  have N0 := Fr.nil n0
  refine ⟨some (.long q1), _, _, _, _, _, X0, e0, by decide, nofun, fun fs hr => ?_, ?_⟩
  · refine xlloadN X0 hx hy d37_0 rfl ?_
    refine xlloadN X0 hx hy d37_1 rfl ?_
    refine XS.lcmp X0.here hx rfl (hb hy d37_2) rfl ?_
    refine XS.ifNo X0.here hx rfl (hb hy d37_3) rfl ((if0 _ _).trans (flt ((fun z => pr1 ((lw_lt q1 q2).mp z)) : ¬ ((lcmpW q1 q2) < o0))).1) ?_
    refine xlloadN X0 hx hy d37_6 rfl ?_
    refine XS.goto X0.here hx rfl (pc0 := 7) (pc' := 11) rfl (hb hy d37_7) (by decide) (by decide) ?_
    show SS p e below s₁ m 11 #[jv q1, sc, jv q2, sc] [(.long q1)] _
    exact own_retJ X0 hx hret (hb hy d37_11) hr
  · exact ⟨rfl, N0, rfl⟩
theorem mg_own_jmax (l : Launch) (Z : State) (a0 : Array Value) (hw : HW a0 Z) (x y : Int64) (h0 : Heap) (n0 : Nat) (OL0 : Old Z n0 h0) :
    MF l Z mn37 jdk_29_method_66_code 4 (some .long) ⟨0, 0, 0, 0⟩ #[(.long x), (.long y)] h0 (QR n0 h0 (some (.long (own_jmax x y)))) := by
  by_cases hc : x < y
  · rw [show own_jmax x y = _ from if_pos hc]
    exact rm37_0 l Z a0 hw x y h0 n0 OL0 hc
  · rw [show own_jmax x y = _ from if_neg hc]
    exact rm37_1 l Z a0 hw x y h0 n0 OL0 hc
theorem pd_28 : parseMethodDescriptor "(JJ)J" = some ⟨[.long, .long], some .long⟩ := by decide +kernel
theorem cw41 {a0 Z} (hw : HW a0 Z) : CS a0 Z s43 87 mn37 2 (.code mn37 jdk_29_method_66_code 4 (some .long)) :=
  ⟨wx hw 272 rfl, wx hw 273 rfl, wx hw 274 rfl, wx hw 166 rfl, by decide, _, _, pd_28, rfl⟩
theorem d36_60 : DC cb36 60 (.aload_n 0) 1 := by decide +kernel
theorem d36_61 : DC cb36 61 (.getfield 13) 3 := by decide +kernel
theorem d36_64 : DC cb36 64 (.iload_n 3) 1 := by decide +kernel
theorem d36_65 : DC cb36 65 (.laload) 1 := by decide +kernel
theorem d36_66 : DC cb36 66 (.aload_n 1) 1 := by decide +kernel
theorem d36_67 : DC cb36 67 (.getfield 13) 3 := by decide +kernel
theorem d36_70 : DC cb36 70 (.iload 4) 2 := by decide +kernel
theorem d36_72 : DC cb36 72 (.laload) 1 := by decide +kernel
theorem d36_73 : DC cb36 73 (.invokestatic 102) 3 := by decide +kernel
theorem d38_0 : DC cb38 0 (.lload_n 0) 1 := by decide +kernel
theorem d38_1 : DC cb38 1 (.lload_n 2) 1 := by decide +kernel
theorem d38_2 : DC cb38 2 (.lcmp) 1 := by decide +kernel
theorem d38_3 : DC cb38 3 (.ifCond .gt 7) 3 := by decide +kernel
theorem d38_10 : DC cb38 10 (.lload_n 2) 1 := by decide +kernel
theorem d38_11 : DC cb38 11 (.lreturn) 1 := by decide +kernel
theorem ef_38_41 (m : MethodId) (x0 : Int64) (x1 : Int64) : entryFrame m #[(.long x0), (.long x1)] 4 = mkF m 0 #[.val (.long x0), .second, .val (.long x1), .second] [] := by first | (simp [entryFrame, mkF, argsToLocals, Value.category]; done) | rfl
theorem rm38_0 (l : Launch) (Z : State) (a0 : Array Value) (hw : HW a0 Z) (q1 q2 : Int64) (h0 : Heap) (n0 : Nat) (OL0 : Old Z n0 h0) (pr1 : q2 < q1) :
    MF l Z mn38 jdk_29_method_70_code 4 (some .long) ⟨0, 0, 0, 0⟩ #[(.long q1), (.long q2)] h0 (QR n0 h0 (some (.long q2))) := by
  refine own_start (Jvm.Free.JP.mathPlain rfl (by decide +kernel)) (fun m => (ef_38_41 m q1 q2)) ?_
  intro p e s m below meth c s₁ hZ hx hy hml ho hnm hret X0 e0
  have N0 := Fr.nil n0
  refine ⟨some (.long q2), _, _, _, _, _, X0, e0, by decide, nofun, fun fs hr => ?_, ?_⟩
  · refine xlloadN X0 hx hy d38_0 rfl ?_
    refine xlloadN X0 hx hy d38_1 rfl ?_
    refine XS.lcmp X0.here hx rfl (hb hy d38_2) rfl ?_
    refine XS.ifYes X0.here hx rfl (pc0 := 3) (pc' := 10) rfl (hb hy d38_3) rfl ((if0 _ _).trans (tlt (((lw_gt q1 q2).mpr pr1) : o0 < (lcmpW q1 q2))).2.2.1) (by decide) (by decide) ?_
    refine xlloadN X0 hx hy d38_10 rfl ?_
    show SS p e below s₁ m 11 #[jv q1, sc, jv q2, sc] [(.long q2)] _
    exact own_retJ X0 hx hret (hb hy d38_11) hr
  · exact ⟨rfl, N0, rfl⟩
theorem d38_6 : DC cb38 6 (.lload_n 0) 1 := by decide +kernel
theorem d38_7 : DC cb38 7 (.goto 4) 3 := by decide +kernel
theorem rm38_1 (l : Launch) (Z : State) (a0 : Array Value) (hw : HW a0 Z) (q1 q2 : Int64) (h0 : Heap) (n0 : Nat) (OL0 : Old Z n0 h0) (pr1 : ¬ (q2 < q1)) :
    MF l Z mn38 jdk_29_method_70_code 4 (some .long) ⟨0, 0, 0, 0⟩ #[(.long q1), (.long q2)] h0 (QR n0 h0 (some (.long q1))) := by
  refine own_start (Jvm.Free.JP.mathPlain rfl (by decide +kernel)) (fun m => (ef_38_41 m q1 q2)) ?_
  intro p e s m below meth c s₁ hZ hx hy hml ho hnm hret X0 e0
  have N0 := Fr.nil n0
  refine ⟨some (.long q1), _, _, _, _, _, X0, e0, by decide, nofun, fun fs hr => ?_, ?_⟩
  · refine xlloadN X0 hx hy d38_0 rfl ?_
    refine xlloadN X0 hx hy d38_1 rfl ?_
    refine XS.lcmp X0.here hx rfl (hb hy d38_2) rfl ?_
    refine XS.ifNo X0.here hx rfl (hb hy d38_3) rfl ((if0 _ _).trans (flt ((fun z => pr1 ((lw_gt q1 q2).mp z)) : ¬ (o0 < (lcmpW q1 q2)))).2.2.1) ?_
    refine xlloadN X0 hx hy d38_6 rfl ?_
    refine XS.goto X0.here hx rfl (pc0 := 7) (pc' := 11) rfl (hb hy d38_7) (by decide) (by decide) ?_
    show SS p e below s₁ m 11 #[jv q1, sc, jv q2, sc] [(.long q1)] _
    exact own_retJ X0 hx hret (hb hy d38_11) hr
  · exact ⟨rfl, N0, rfl⟩
theorem mg_own_jmin (l : Launch) (Z : State) (a0 : Array Value) (hw : HW a0 Z) (x y : Int64) (h0 : Heap) (n0 : Nat) (OL0 : Old Z n0 h0) :
    MF l Z mn38 jdk_29_method_70_code 4 (some .long) ⟨0, 0, 0, 0⟩ #[(.long x), (.long y)] h0 (QR n0 h0 (some (.long (own_jmin x y)))) := by
  by_cases hc : y < x
  · rw [show own_jmin x y = _ from if_pos hc]
    exact rm38_0 l Z a0 hw x y h0 n0 OL0 hc
  · rw [show own_jmin x y = _ from if_neg hc]
    exact rm38_1 l Z a0 hw x y h0 n0 OL0 hc
theorem cw42 {a0 Z} (hw : HW a0 Z) : CS a0 Z s43 102 mn38 2 (.code mn38 jdk_29_method_70_code 4 (some .long)) :=
  ⟨wx hw 275 rfl, wx hw 276 rfl, wx hw 277 rfl, wx hw 166 rfl, by decide, _, _, pd_28, rfl⟩
theorem d36_76 : DC cb36 76 (.invokevirtual 105) 3 := by decide +kernel
theorem rm19_1 (l : Launch) (Z : State) (a0 : Array Value) (hw : HW a0 Z) (a1 : Addr) (q2 q3 : Int64) (h0 : Heap) (n0 : Nat) (OL0 : Old Z n0 h0) (pr1 : q3 < q2) :
    MF l Z mn19 prog_64_method_2_code 5 none ⟨0, 0, 0, 0⟩ #[(.ref a1), (.long q2), (.long q3)] h0 (QR n0 h0 (none)) := by
  refine own_start (plainFor_of_name pn_11) (fun m => (ef_19_28 m a1 q2 q3)) ?_
  intro p e s m below meth c s₁ hZ hx hy hml ho hnm hret X0 e0
  have N0 := Fr.nil n0
  refine ⟨none, _, _, _, _, _, X0, e0, by decide, fun _ => rfl, fun fs hr => ?_, ?_⟩
  · refine xlloadN X0 hx hy d19_0 rfl ?_
    refine xlloadN X0 hx hy d19_1 rfl ?_
    refine XS.lcmp X0.here hx rfl (hb hy d19_2) rfl ?_
    refine XS.ifYes X0.here hx rfl (pc0 := 3) (pc' := 36) rfl (hb hy d19_3) rfl ((if0 _ _).trans (tlt (((lw_gt q2 q3).mpr pr1) : o0 < (lcmpW q2 q3))).2.2.1) (by decide) (by decide) ?_
    show SS p e below s₁ m 36 #[rv a1, jv q2, sc, jv q3, sc] [] _
    exact X0.returnOut hx hret (hb hy d19_36) hr
  · exact ⟨rfl, N0, rfl⟩
theorem d36_79 : DC cb36 79 (.aload_n 0) 1 := by decide +kernel
theorem d36_80 : DC cb36 80 (.getfield 13) 3 := by decide +kernel
theorem d36_83 : DC cb36 83 (.iload_n 3) 1 := by decide +kernel
theorem d36_84 : DC cb36 84 (.laload) 1 := by decide +kernel
theorem d36_85 : DC cb36 85 (.aload_n 1) 1 := by decide +kernel
theorem d36_86 : DC cb36 86 (.getfield 13) 3 := by decide +kernel
theorem d36_89 : DC cb36 89 (.iload 4) 2 := by decide +kernel
theorem d36_91 : DC cb36 91 (.laload) 1 := by decide +kernel
theorem d36_92 : DC cb36 92 (.lcmp) 1 := by decide +kernel
theorem d36_93 : DC cb36 93 (.ifCond .ge 9) 3 := by decide +kernel
theorem d36_96 : DC cb36 96 (.iinc 3 1) 3 := by decide +kernel
theorem d36_99 : DC cb36 99 (.goto (-75)) 3 := by decide +kernel
theorem d36_108 : DC cb36 108 (.aload_n 2) 1 := by decide +kernel
theorem d36_109 : DC cb36 109 (.invokevirtual 109) 3 := by decide +kernel
theorem d20_7 : DC cb20 7 (.invokestatic 20) 3 := by decide +kernel
theorem d39_0 : DC cb39 0 (.getstatic 1) 3 := by decide +kernel
theorem d39_3 : DC cb39 3 (.astore_n 0) 1 := by decide +kernel
theorem d39_4 : DC cb39 4 (.aload_n 0) 1 := by decide +kernel
theorem d39_5 : DC cb39 5 (.areturn) 1 := by decide +kernel
theorem ef_39_42 (m : MethodId)  : entryFrame m #[] 1 = mkF m 0 #[.unset] [] := by first | (simp [entryFrame, mkF, argsToLocals, Value.category]; done) | rfl
theorem rm39_0 (l : Launch) (Z : State) (a0 : Array Value) (hw : HW a0 Z) (w1 : Addr) (h0 : Heap) (n0 : Nat) (OL0 : Old Z n0 h0) (pr1 : Sta Z Z.heap s32 "EMPTY" s6 (.ref w1)) :
    MF l Z mn39 jdk_32_method_1_code 1 (some (.object s32)) ⟨0, 0, 0, 0⟩ #[] h0 (QR n0 h0 (some (.ref w1))) := by
  refine own_start (plainFor_of_name pn_14) (fun m => (ef_39_42 m )) ?_
  intro p e s m below meth c s₁ hZ hx hy hml ho hnm hret X0 e0
  have N0 := Fr.nil n0
  obtain ⟨T2, X2, e2, st2⟩ := getS2 X0 hx hZ ho (host := "") (Or.inl (wd281 hw)) Via.refl e0 (pr1.ext OL0.2) (g := (mkF m 0 #[uu] [])) rfl (hb hy d39_0)
  refine ⟨some (.ref w1), _, _, _, _, _, X2, e2, by decide, nofun, fun fs hr => ?_, ?_⟩
  · refine st2 _ ?_
    refine XS.astoreN X2.here hx rfl (hb hy d39_3) rfl rfl (l' := #[rv w1]) rfl ?_
    refine xaloadN X2 hx hy d39_4 rfl rfl ?_
    show SS p e below T2 m 5 #[rv w1] [(.ref w1)] _
    exact own_retR X2 hx hret rfl rfl rfl (hb hy d39_5) hr
  · exact ⟨rfl, N0, rfl⟩
theorem cw43 {a0 Z} (hw : HW a0 Z) : CS a0 Z s44 20 mn39 0 (.code mn39 jdk_32_method_1_code 1 (some (.object s32))) :=
  ⟨wx hw 278 rfl, wx hw 279 rfl, wx hw 280 rfl, wx hw 175 rfl, by decide, _, _, pd_25, rfl⟩
theorem d20_10 : DC cb20 10 (.goto 35) 3 := by decide +kernel
theorem rm20_1 (l : Launch) (Z : State) (a0 : Array Value) (hw : HW a0 Z) (a1 w3 : Addr) (h0 : Heap) (n0 : Nat) (OL0 : Old Z n0 h0) (pr1 : Fld Z h0 a1 s44 "count" "I" vi0) (pr2 : Sta Z Z.heap s32 "EMPTY" s6 (.ref w3)) :
    MF l Z mn20 prog_64_method_3_code 1 (some (.object s32)) ⟨1, 0, 0, 12⟩ #[(.ref a1)] h0 (QR n0 h0 (some (.ref w3))) := by
  refine own_start (plainFor_of_name pn_11) (fun m => (ef_20_34 m a1)) ?_
  intro p e s m below meth c s₁ hZ hx hy hml ho hnm hret X0 e0
  have N0 := Fr.nil n0
  obtain ⟨T2, X2, e2, st2⟩ := gF X0 hx hZ ho (wd152 hw) Via.refl e0 pr1 1 #[rv a1] [] (hb hy d20_1)
  obtain ⟨_, T4, L4, X4, hQ4, st4⟩ := own_cS X2 hx hZ ho hml (cw43 hw) (rm39_0 l Z a0 hw w3 h0 n0 OL0 pr2) e2 7 #[rv a1] [] [] 0 rfl (hb hy d20_7) (by decide)
  obtain ⟨rfl, Nq4, ec4⟩ := hQ4
  have N4 := Fr.app N0 Nq4
  refine ⟨some (.ref w3), _, _, _, _, _, X4, ec4, by decide, nofun, fun fs hr => ?_, ?_⟩
  · refine xaloadN X0 hx hy d20_0 rfl rfl ?_
    refine st2 _ ?_
    refine XS.ifNo X2.here hx rfl (hb hy d20_4) rfl ((if0 _ _).trans (teq (rfl : o0 = o0)).2) ?_
    refine st4 _ ?_
    refine XS.goto X4.here hx rfl (pc0 := 10) (pc' := 45) rfl (hb hy d20_10) (by decide) (by decide) ?_
    show SS p e below T4 m 45 #[rv a1] [(.ref w3)] _
    exact own_retR X4 hx hret rfl rfl rfl (hb hy d20_45) hr
  · exact ⟨rfl, N4, rfl⟩
theorem d36_112 : DC cb36 112 (.areturn) 1 := by decide +kernel
theorem ef_36_43 (m : MethodId) (x0 : Addr) (x1 : Addr) : entryFrame m #[(.ref x0), (.ref x1)] 5 = mkF m 0 #[.val (.ref x0), .val (.ref x1), .unset, .unset, .unset] [] := by first | (simp [entryFrame, mkF, argsToLocals, Value.category]; done) | rfl
theorem rm36_0 (l : Launch) (Z : State) (a0 : Array Value) (hw : HW a0 Z) (a1 a2 a4 : Addr) (q7 : Int64) (k8 : ClassId) (a11 : Addr) (q14 : Int64) (k15 : ClassId) (a36 : Addr) (q39 : Int64) (k40 : ClassId) (a44 : Addr) (q47 : Int64) (k48 : ClassId) (w61 : Addr) (h0 : Heap) (n0 : Nat) (OL0 : Old Z n0 h0) (pr1 : Fld Z h0 a1 s43 "lows" "[J" (.ref a4)) (pr2 : Arv Z h0 a4 k8 .long o1 [(.long q7)] lj0) (pr3 : Fld Z h0 a2 s43 "lows" "[J" (.ref a11)) (pr4 : Arv Z h0 a11 k15 .long o1 [(.long q14)] lj0) (pr5 : Fld Z h0 a1 s43 "highs" "[J" (.ref a36)) (pr6 : Arv Z h0 a36 k40 .long o1 [(.long q39)] lj0) (pr7 : Fld Z h0 a2 s43 "highs" "[J" (.ref a44)) (pr8 : Arv Z h0 a44 k48 .long o1 [(.long q47)] lj0) (pr9 : (own_jmin q39 q47) < (own_jmax q7 q14)) (pr10 : q39 < q47) (pr11 : Sta Z Z.heap s32 "EMPTY" s6 (.ref w61)) :
    MF l Z mn36 prog_63_method_4_code 5 (some (.object s32)) ⟨2, 3, 7, 26⟩ #[(.ref a1), (.ref a2)] h0 (fun v h L => v = some (.ref w61) ∧ Fr n0 L ∧ Keep h0 h []) := by
  refine own_start (plainFor_of_name pn_2) (fun m => (ef_36_43 m a1 a2)) ?_
  intro p e s m below meth c s₁ hZ hx hy hml ho hnm hret X0 e0
  have N0 := Fr.nil n0
  obtain ⟨T3, h3, X3, e3, E3, A3, D3, -, st3⟩ := newO X0 hx hZ ho (wd136 hw) (wd137 hw) (wd138 hw) e0 (g := (mkF m 0 #[rv a1, rv a2, uu, uu, uu] [])) rfl (hb hy d36_0) (by decide) (by decide)
  obtain ⟨b3, g3⟩ : ∃ z, z = h0.size := ⟨_, rfl⟩
  rw [← g3] at A3 D3 st3
  have g_b3 : n0 ≤ b3 := (Nat.le_trans (Nat.le_trans (Nat.le_of_eq OL0.1.symm) OL0.2.1) (Nat.le_of_eq g3.symm))
  have sz_b3 : h0.size ≤ b3 := (Nat.le_trans (Keep.refl h0 []).1 (Nat.le_of_eq g3.symm))
  have KK3 : Keep h0 h3 [] := (Keep.refl h0 []).ext E3
  have OL3 := OL0.ext E3
  have F_lows_b3 : Fld Z h3 b3 s44 "lows" "[J" .null := D3 (Or.inr (wd144 hw)) (ty := (.array .long)) (by decide)
  have F_highs_b3 : Fld Z h3 b3 s44 "highs" "[J" .null := D3 (Or.inr (wd146 hw)) (ty := (.array .long)) (by decide)
  have F_count_b3 : Fld Z h3 b3 s44 "count" "I" vi0 := D3 (Or.inl (wd153 hw)) (ty := .int) (by decide)
  have fc5 := (pr1.ext E3)
  obtain ⟨T6, X6, e6, st6⟩ := gF X3 hx hZ ho (wd41 hw) Via.refl e3 fc5 5 #[rv a1, rv a2, uu, uu, uu] [(.ref b3), (.ref b3)] (hb hy d36_5)
  have fc9 := (pr2.ext E3)
  obtain ⟨cl10, Ar10, -, Sz10, Nn10, -, -⟩ := id fc9
  have fc12 := (pr3.ext E3)
  obtain ⟨T13, X13, e13, st13⟩ := gF X6 hx hZ ho (wd41 hw) Via.refl e6 fc12 10 #[rv a1, rv a2, uu, uu, uu] [vi1, (.ref b3), (.ref b3)] (hb hy d36_10)
  have fc16 := (pr4.ext E3)
  obtain ⟨cl17, Ar17, -, Sz17, Nn17, -, -⟩ := id fc16
  obtain ⟨_, T18, L18, X18, hQ18, st18⟩ := own_cN X13 hx hZ ho hml (cw27 hw) (rm18_0 l Z a0 hw b3 h3 n0 OL3 A3 F_lows_b3 g_b3 F_highs_b3 F_count_b3) e13 b3 15 #[rv a1, rv a2, uu, uu, uu] [(.int o2)] [(.ref b3)] 1 rfl (hb hy d36_15) (by decide)
  obtain ⟨b18_0, b18_1, kx18_0, kx18_1, rfl, Nq18, K18, u18_0, u18_1, u18_2, u18_3, u18_4, u18_5, u18_6, u18_7, u18_8, u18_9⟩ := hQ18
  have KK18 : Keep h0 T18.heap [] := KK3.trans K18 (allS (Or.inr sz_b3) all0)
  have OL18 := OL3.keep K18 (allS g_b3 all0)
  have N18 := Fr.app N0 Nq18
  have nz19 := nl pr1.lt sz_b3
  have fc20 := (fc5.keep K18 (ninS nz19 nin0))
  obtain ⟨T21, X21, e21, st21⟩ := gF X18 hx hZ ho (wd41 hw) Via.refl rfl fc20 26 #[rv a1, rv a2, rv b3, iv o0, iv o0] [vi0] (hb hy d36_26)
  have nz22 := nl pr2.lt sz_b3
  have fc23 := (fc9.keep K18 (ninS nz22 nin0))
  obtain ⟨cl24, Ar24, -, Sz24, Nn24, -, -⟩ := id fc23
  have nz25 := nl pr3.lt sz_b3
  have fc26 := (fc12.keep K18 (ninS nz25 nin0))
  obtain ⟨T27, X27, e27, st27⟩ := gF X21 hx hZ ho (wd41 hw) Via.refl e21 fc26 36 #[rv a1, rv a2, rv b3, iv o0, iv o0] [vi0] (hb hy d36_36)
  have nz28 := nl pr4.lt sz_b3
  have fc29 := (fc16.keep K18 (ninS nz28 nin0))
  obtain ⟨cl30, Ar30, -, Sz30, Nn30, -, -⟩ := id fc29
  obtain ⟨T31, X31, e31, st31⟩ := gF X27 hx hZ ho (wd41 hw) Via.refl e27 fc20 45 #[rv a1, rv a2, rv b3, iv o0, iv o0] [(.ref b3)] (hb hy d36_45)
  obtain ⟨T33, X33, e33, st33⟩ := gF X31 hx hZ ho (wd41 hw) Via.refl e31 fc26 51 #[rv a1, rv a2, rv b3, iv o0, iv o0] [(.long q7), (.ref b3)] (hb hy d36_51)
  obtain ⟨_, T35, L35, X35, hQ35, st35⟩ := own_cS X33 hx hZ ho hml (cw41 hw) (mg_own_jmax l Z a0 hw q7 q14 T18.heap n0 OL18 ) e33 57 #[rv a1, rv a2, rv b3, iv o0, iv o0] [(.long q7), (.long q14)] [(.ref b3)] 1 rfl (hb hy d36_57) (by decide)
  obtain ⟨rfl, Nq35, ec35⟩ := hQ35
  have N35 := Fr.app N18 Nq35
  have fc37 := ((pr5.ext E3).keep K18 (ninS nz19 nin0))
  obtain ⟨T38, X38, e38, st38⟩ := gF X35 hx hZ ho (wd43 hw) Via.refl ec35 fc37 61 #[rv a1, rv a2, rv b3, iv o0, iv o0] [(.long (own_jmax q7 q14)), (.ref b3)] (hb hy d36_61)
  have nz41 := nl pr6.lt sz_b3
  have fc42 := ((pr6.ext E3).keep K18 (ninS nz41 nin0))
  have fc45 := ((pr7.ext E3).keep K18 (ninS nz25 nin0))
  obtain ⟨T46, X46, e46, st46⟩ := gF X38 hx hZ ho (wd43 hw) Via.refl e38 fc45 67 #[rv a1, rv a2, rv b3, iv o0, iv o0] [(.long q39), (.long (own_jmax q7 q14)), (.ref b3)] (hb hy d36_67)
  have nz49 := nl pr8.lt sz_b3
  have fc50 := ((pr8.ext E3).keep K18 (ninS nz49 nin0))
  obtain ⟨_, T52, L52, X52, hQ52, st52⟩ := own_cS X46 hx hZ ho hml (cw42 hw) (mg_own_jmin l Z a0 hw q39 q47 T18.heap n0 OL18 ) e46 73 #[rv a1, rv a2, rv b3, iv o0, iv o0] [(.long q39), (.long q47)] [(.long (own_jmax q7 q14)), (.ref b3)] 3 rfl (hb hy d36_73) (by decide)
  obtain ⟨rfl, Nq52, ec52⟩ := hQ52
  have N52 := Fr.app N35 Nq52
  have fc54 := (A3.keep K18)
  obtain ⟨_, T53, L53, X53, hQ53, st53⟩ := own_cV X52 hx hZ ho hml (cw28 hw) (rm19_1 l Z a0 hw b3 (own_jmax q7 q14) (own_jmin q39 q47) T18.heap n0 OL18 pr9) ec52 fc54 76 #[rv a1, rv a2, rv b3, iv o0, iv o0] [(.long (own_jmax q7 q14)), (.long (own_jmin q39 q47))] [] 0 rfl (hb hy d36_76) (by decide)
  obtain ⟨rfl, Nq53, ec53⟩ := hQ53
  have N53 := Fr.app N52 Nq53
  obtain ⟨T55, X55, e55, st55⟩ := gF X53 hx hZ ho (wd43 hw) Via.refl ec53 fc37 80 #[rv a1, rv a2, rv b3, iv o0, iv o0] [] (hb hy d36_80)
  obtain ⟨T57, X57, e57, st57⟩ := gF X55 hx hZ ho (wd43 hw) Via.refl e55 fc45 86 #[rv a1, rv a2, rv b3, iv o0, iv o0] [(.long q39)] (hb hy d36_86)
  obtain ⟨T59, X59, e59, st59⟩ := gF X57 hx hZ ho (wd41 hw) Via.refl e57 fc20 26 #[rv a1, rv a2, rv b3, iv o1, iv o0] [vi1] (hb hy d36_26)
  obtain ⟨cl60, Ar60, -, Sz60, Nn60, -, -⟩ := id fc23
  obtain ⟨_, T62, L62, X62, hQ62, st62⟩ := own_cV X59 hx hZ ho hml (cw35 hw) (rm20_1 l Z a0 hw b3 w61 T18.heap n0 OL18 u18_5 pr11) e59 fc54 109 #[rv a1, rv a2, rv b3, iv o1, iv o0] [] [] 0 rfl (hb hy d36_109) (by decide)
  obtain ⟨rfl, Nq62, ec62⟩ := hQ62
  have N62 := Fr.app N53 Nq62
  refine ⟨some (.ref w61), _, _, _, _, _, X62, ec62, by decide, nofun, fun fs hr => ?_, ?_⟩
  · refine st3 _ ?_
    refine XS.dup X3.here hx rfl (hb hy d36_3) rfl rfl ?_
    refine xaloadN X3 hx hy d36_4 rfl rfl ?_
    refine st6 _ ?_
    refine X6.arraylength hx (by rw [e6]; exact Ar10.1) (State.isArrayOf_alike hZ.alike Ar10.2.1) (g := (mkF m 8 #[rv a1, rv a2, uu, uu, uu] [(.ref a4), (.ref b3), (.ref b3)])) rfl rfl (hb hy d36_8) _ ?_
    rw [len_of Sz10 Nn10]
    refine xaloadN X6 hx hy d36_9 rfl rfl ?_
    refine st13 _ ?_
    refine X13.arraylength hx (by rw [e13]; exact Ar17.1) (State.isArrayOf_alike hZ.alike Ar17.2.1) (g := (mkF m 13 #[rv a1, rv a2, uu, uu, uu] [(.ref a11), vi1, (.ref b3), (.ref b3)])) rfl rfl (hb hy d36_13) _ ?_
    rw [len_of Sz17 Nn17]
    refine XS.iadd X13.here hx rfl (hb hy d36_14) rfl ?_
    refine st18 _ ?_
    refine XS.astoreN X18.here hx rfl (hb hy d36_18) rfl rfl (l' := #[rv a1, rv a2, rv b3, uu, uu]) rfl ?_
    refine XS.iconst X18.here hx rfl (hb hy d36_19) ?_
    refine XS.istoreN X18.here hx rfl (hb hy d36_20) rfl (l' := #[rv a1, rv a2, rv b3, iv o0, uu]) rfl ?_
    refine XS.iconst X18.here hx rfl (hb hy d36_21) ?_
    refine XS.istore X18.here hx rfl (hb hy d36_22) rfl (l' := #[rv a1, rv a2, rv b3, iv o0, iv o0]) rfl ?_
    refine xiloadN X18 hx hy d36_24 rfl ?_
    refine xaloadN X18 hx hy d36_25 rfl rfl ?_
    refine st21 _ ?_
    refine X21.arraylength hx (by rw [e21]; exact Ar24.1) (State.isArrayOf_alike hZ.alike Ar24.2.1) (g := (mkF m 29 #[rv a1, rv a2, rv b3, iv o0, iv o0] [(.ref a4), vi0])) rfl rfl (hb hy d36_29) _ ?_
    rw [len_of Sz24 Nn24]
    refine XS.icmpNo X21.here hx rfl (hb hy d36_30) rfl (tlt (by decide : o0 < o1)).2.1 ?_
    refine xiload X21 hx hy d36_33 rfl ?_
    refine xaloadN X21 hx hy d36_35 rfl rfl ?_
    refine st27 _ ?_
    refine X27.arraylength hx (by rw [e27]; exact Ar30.1) (State.isArrayOf_alike hZ.alike Ar30.2.1) (g := (mkF m 39 #[rv a1, rv a2, rv b3, iv o0, iv o0] [(.ref a11), vi0])) rfl rfl (hb hy d36_39) _ ?_
    rw [len_of Sz30 Nn30]
    refine XS.icmpNo X27.here hx rfl (hb hy d36_40) rfl (tlt (by decide : o0 < o1)).2.1 ?_
    refine xaloadN X27 hx hy d36_43 rfl rfl ?_
    refine xaloadN X27 hx hy d36_44 rfl rfl ?_
    refine st31 _ ?_
    refine xiloadN X31 hx hy d36_48 rfl ?_
    refine own_laJ X31 hx hZ e31 fc23 (v := (.long q7)) (by decide) rfl (hb hy d36_49) ?_
    refine xaloadN X31 hx hy d36_50 rfl rfl ?_
    refine st33 _ ?_
    refine xiload X33 hx hy d36_54 rfl ?_
    refine own_laJ X33 hx hZ e33 fc29 (v := (.long q14)) (by decide) rfl (hb hy d36_56) ?_
    refine st35 _ ?_
    refine xaloadN X35 hx hy d36_60 rfl rfl ?_
    refine st38 _ ?_
    refine xiloadN X38 hx hy d36_64 rfl ?_
    refine own_laJ X38 hx hZ e38 fc42 (v := (.long q39)) (by decide) rfl (hb hy d36_65) ?_
    refine xaloadN X38 hx hy d36_66 rfl rfl ?_
    refine st46 _ ?_
    refine xiload X46 hx hy d36_70 rfl ?_
    refine own_laJ X46 hx hZ e46 fc50 (v := (.long q47)) (by decide) rfl (hb hy d36_72) ?_
    refine st52 _ ?_
    refine st53 _ ?_
    refine xaloadN X53 hx hy d36_79 rfl rfl ?_
    refine st55 _ ?_
    refine xiloadN X55 hx hy d36_83 rfl ?_
    refine own_laJ X55 hx hZ e55 fc42 (v := (.long q39)) (by decide) rfl (hb hy d36_84) ?_
    refine xaloadN X55 hx hy d36_85 rfl rfl ?_
    refine st57 _ ?_
    show SS p e below T57 m 89 #[rv a1, rv a2, rv b3, iv o0, iv o0] [(.ref a44), (.long q39)] _
    refine xiload X57 hx hy d36_89 rfl ?_
    refine own_laJ X57 hx hZ e57 fc50 (v := (.long q47)) (by decide) rfl (hb hy d36_91) ?_
    refine XS.lcmp X57.here hx rfl (hb hy d36_92) rfl ?_
    refine XS.ifNo X57.here hx rfl (hb hy d36_93) rfl ((if0 _ _).trans (tlt (((lw_lt q39 q47).mpr pr10) : (lcmpW q39 q47) < o0)).2.1) ?_
    refine XS.iinc X57.here hx rfl (hb hy d36_96) rfl (l' := #[rv a1, rv a2, rv b3, .val (.int (o0 + o1)), iv o0]) rfl ?_
    refine XS.goto X57.here hx rfl (pc0 := 99) (pc' := 24) rfl (hb hy d36_99) (by decide) (by decide) ?_
    refine xiloadN X57 hx hy d36_24 rfl ?_
    refine xaloadN X57 hx hy d36_25 rfl rfl ?_
    refine st59 _ ?_
    refine X59.arraylength hx (by rw [e59]; exact Ar60.1) (State.isArrayOf_alike hZ.alike Ar60.2.1) (g := (mkF m 29 #[rv a1, rv a2, rv b3, iv o1, iv o0] [(.ref a4), vi1])) rfl rfl (hb hy d36_29) _ ?_
    rw [len_of Sz60 Nn60]
    refine XS.icmpYes X59.here hx rfl (pc0 := 30) (pc' := 108) rfl (hb hy d36_30) rfl (flt (by decide : ¬ (o1 < o1))).2.1 (by decide) (by decide) ?_
    refine xaloadN X59 hx hy d36_108 rfl rfl ?_
    refine st62 _ ?_
    show SS p e below T62 m 112 #[rv a1, rv a2, rv b3, iv o1, iv o0] [(.ref w61)] _
    exact own_retR X62 hx hret rfl rfl rfl (hb hy d36_112) hr
  · exact ⟨rfl, N62, KK18⟩
theorem cw44 {a0 Z} (hw : HW a0 Z) : CV a0 Z s45 34 mn36 mn36 s43 1 (.code mn36 prog_63_method_4_code 5 (some (.object s32))) :=
  ⟨wx hw 267 rfl, wx hw 268 rfl, (fun _ hZ => notFace_of_selects (args := #[]) (mvT hZ (wd270 hw))), wx hw 270 rfl, wx hw 269 rfl, wx hw 271 rfl, wx hw 31 rfl, by decide, _, _, pd_26, rfl⟩
theorem d29_27 : DC cb29 27 (.astore_n 3) 1 := by decide +kernel
theorem d29_28 : DC cb29 28 (.aload_n 0) 1 := by decide +kernel
theorem d29_29 : DC cb29 29 (.dup) 1 := by decide +kernel
theorem d29_30 : DC cb29 30 (.getfield 38) 3 := by decide +kernel
theorem d29_33 : DC cb29 33 (.aload_n 3) 1 := by decide +kernel
theorem d29_34 : DC cb29 34 (.invokevirtual 42) 3 := by decide +kernel
theorem d26_7 : DC cb26 7 (.iconst 1) 1 := by decide +kernel
theorem d26_8 : DC cb26 8 (.goto 4) 3 := by decide +kernel
theorem rm26_1 (l : Launch) (Z : State) (a0 : Array Value) (hw : HW a0 Z) (w1 : Addr) (h0 : Heap) (n0 : Nat) (OL0 : Old Z n0 h0) (pr1 : Fld Z Z.heap w1 s32 "value" s3 .null) :
    MF l Z mn26 jdk_32_method_7_code 1 (some .boolean) ⟨0, 0, 0, 0⟩ #[(.ref w1)] h0 (QR n0 h0 (some vi1)) := by
  refine own_start (plainFor_of_name pn_14) (fun m => (ef_26_36 m w1)) ?_
  intro p e s m below meth c s₁ hZ hx hy hml ho hnm hret X0 e0
  have N0 := Fr.nil n0
  obtain ⟨T2, X2, e2, st2⟩ := gF X0 hx hZ ho (wd188 hw) Via.refl e0 (pr1.ext OL0.2) 1 #[rv w1] [] (hb hy d26_1)
  refine ⟨some vi1, _, _, _, _, _, X2, e2, by decide, nofun, fun fs hr => ?_, ?_⟩
  · refine xaloadN X0 hx hy d26_0 rfl rfl ?_
    refine st2 _ ?_
    refine XS.ifnonnullNo X2.here hx rfl (hb hy d26_4) rfl ?_
    refine XS.iconst X2.here hx rfl (hb hy d26_7) ?_
    refine XS.goto X2.here hx rfl (pc0 := 8) (pc' := 12) rfl (hb hy d26_8) (by decide) (by decide) ?_
    show SS p e below T2 m 12 #[rv w1] [vi1] _
    exact retN X2 hx (t := .boolean) hret (by simp) (hb hy d26_12) hr
  · exact ⟨rfl, N0, rfl⟩
theorem d29_37 : DC cb29 37 (.ior) 1 := by decide +kernel
theorem d29_38 : DC cb29 38 (.putfield 38) 3 := by decide +kernel
theorem d29_41 : DC cb29 41 (.aload_n 3) 1 := by decide +kernel
theorem d29_42 : DC cb29 42 (.aload_n 0) 1 := by decide +kernel
theorem d29_43 : DC cb29 43 (.iload_n 1) 1 := by decide +kernel
theorem d29_44 : DC cb29 44 (.invokedynamic 48) 5 := by decide +kernel
theorem d29_49 : DC cb29 49 (.invokevirtual 52) 3 := by decide +kernel
theorem rm27_1 (l : Launch) (Z : State) (a0 : Array Value) (hw : HW a0 Z) (w1 a2 : Addr) (h0 : Heap) (n0 : Nat) (OL0 : Old Z n0 h0) (pr1 : Fld Z Z.heap w1 s32 "value" s3 .null) :
    MF l Z mn27 jdk_32_method_8_code 2 none ⟨0, 0, 0, 0⟩ #[(.ref w1), (.ref a2)] h0 (QR n0 h0 (none)) := by
  refine own_start (plainFor_of_name pn_14) (fun m => (ef_27_38 m w1 a2)) ?_
  intro p e s m below meth c s₁ hZ hx hy hml ho hnm hret X0 e0
  have N0 := Fr.nil n0
  obtain ⟨T3, X3, e3, st3⟩ := gF X0 hx hZ ho (wd188 hw) Via.refl e0 (pr1.ext OL0.2) 1 #[rv w1, rv a2] [] (hb hy d27_1)
  refine ⟨none, _, _, _, _, _, X3, e3, by decide, fun _ => rfl, fun fs hr => ?_, ?_⟩
  · refine xaloadN X0 hx hy d27_0 rfl rfl ?_
    refine st3 _ ?_
    refine XS.ifnullYes X3.here hx rfl (pc0 := 4) (pc' := 17) rfl (hb hy d27_4) rfl (by decide) (by decide) ?_
    show SS p e below T3 m 17 #[rv w1, rv a2] [] _
    exact X3.returnOut hx hret (hb hy d27_17) hr
  · exact ⟨rfl, N0, rfl⟩
theorem d29_52 : DC cb29 52 (.return_) 1 := by decide +kernel
theorem rm29_1 (l : Launch) (Z : State) (a0 : Array Value) (hw : HW a0 Z) (a1 : Addr) (p2 : Int32) (a3 a4 a6 : Addr) (k7 : ClassId) (a11 : Addr) (q12 : Int64) (k13 : ClassId) (a14 : Addr) (q15 : Int64) (k16 : ClassId) (a17 : Addr) (q18 : Int64) (k19 : ClassId) (a20 : Addr) (q21 : Int64) (k22 : ClassId) (w23 : Addr) (p25 : Int32) (a33 a36 : Addr) (p39 : Int32) (h0 : Heap) (n0 : Nat) (OL0 : Old Z n0 h0) (pr1 : Fld Z h0 a1 s45 "sets" s8 (.ref a4)) (pr2 : Asl Z h0 a4 k7 tV o12 p2 (.ref a6)) (pr3 : Fld Z h0 a6 s43 "lows" "[J" (.ref a11)) (pr4 : Arv Z h0 a11 k13 .long o1 [(.long q12)] lj0) (pr5 : Fld Z h0 a3 s43 "lows" "[J" (.ref a14)) (pr6 : Arv Z h0 a14 k16 .long o1 [(.long q15)] lj0) (pr7 : Fld Z h0 a6 s43 "highs" "[J" (.ref a17)) (pr8 : Arv Z h0 a17 k19 .long o1 [(.long q18)] lj0) (pr9 : Fld Z h0 a3 s43 "highs" "[J" (.ref a20)) (pr10 : Arv Z h0 a20 k22 .long o1 [(.long q21)] lj0) (pr11 : (own_jmin q18 q21) < (own_jmax q12 q15)) (pr12 : q18 < q21) (pr13 : Sta Z Z.heap s32 "EMPTY" s6 (.ref w23)) (pr14 : Exa Z h0 a6 s43) (pr15 : Fld Z h0 a1 s45 s15 "Z" (.int p25)) (pr16 : Fld Z Z.heap w23 s32 "value" s3 .null) (pr17 : Exa Z Z.heap w23 s32) (pr18 : Exa Z h0 a1 s45) (pr19 : n0 ≤ a1) (pr20 : Fld Z h0 a1 s45 s11 s5 (.ref a33)) (pr21 : Fld Z h0 a1 s45 s16 s5 (.ref a36)) (pr22 : Fld Z h0 a1 s45 s48 "Z" (.int p39)) :
    MF l Z mn29 prog_66_method_2_code 4 none ⟨3, 4, 9, 3075⟩ #[(.ref a1), (.int p2), (.ref a3)] h0 (fun v h L => v = none ∧ Fr n0 L ∧ Keep h0 h [a1] ∧ Fld Z h a1 s45 "sets" s8 (.ref a4) ∧ Fld Z h a1 s45 s15 "Z" (.int (nar .boolean (p25 ||| o1))) ∧ Fld Z h a1 s45 s11 s5 (.ref a33) ∧ Fld Z h a1 s45 s16 s5 (.ref a36) ∧ Fld Z h a1 s45 s48 "Z" (.int p39)) := by
  refine own_startN (plainFor_of_name pn_7) (fun m => (ef_29_12 m a1 p2 a3)) ?_
  intro p e s m below meth c s₁ hZ hx hy hml ho hnm hnamed hret X0 e0
  have N0 := Fr.nil n0
  obtain ⟨T5, X5, e5, st5⟩ := gF X0 hx hZ ho (wd68 hw) Via.refl e0 pr1 1 #[rv a1, iv p2, rv a3, uu] [] (hb hy d29_1)
  obtain ⟨T9, X9, e9, st9⟩ := gF X5 hx hZ ho (wd68 hw) Via.refl e5 pr1 18 #[rv a1, iv p2, rv a3, uu] [] (hb hy d29_18)
  obtain ⟨_, T24, L24, X24, hQ24, st24⟩ := own_cV X9 hx hZ ho hml (cw44 hw) (rm36_0 l Z a0 hw a6 a3 a11 q12 k13 a14 q15 k16 a17 q18 k19 a20 q21 k22 w23 h0 n0 OL0 pr3 pr4 pr5 pr6 pr7 pr8 pr9 pr10 pr11 pr12 pr13) e9 pr14 24 #[rv a1, iv p2, rv a3, uu] [(.ref a3)] [] 0 rfl (hb hy d29_24) (by decide)
  obtain ⟨rfl, Nq24, K24⟩ := hQ24
  have KK24 : Keep h0 T24.heap [a1] := (Keep.refl h0 [a1]).trans K24 all0
  have OL24 := OL0.keep K24 all0
  have N24 := Fr.app N0 Nq24
  have fc26 := (pr15.keep K24 nin0)
  obtain ⟨T27, X27, e27, st27⟩ := gF X24 hx hZ ho (wd190 hw) Via.refl rfl fc26 30 #[rv a1, iv p2, rv a3, rv w23] [(.ref a1)] (hb hy d29_30)
  obtain ⟨_, T28, L28, X28, hQ28, st28⟩ := own_cV X27 hx hZ ho hml (cw37 hw) (rm26_1 l Z a0 hw w23 T24.heap n0 OL24 pr16) e27 (pr17.ext OL24.2) 34 #[rv a1, iv p2, rv a3, rv w23] [] [(.int p25), (.ref a1)] 2 rfl (hb hy d29_34) (by decide)
  obtain ⟨rfl, Nq28, ec28⟩ := hQ28
  have N28 := Fr.app N24 Nq28
  have fc29 := (pr18.keep K24)
  obtain ⟨T30, h30, X30, e30, W30, st30⟩ := putFN X28 hx hZ ho (wd190 hw) Via.refl ec28 fc26 fc29 (Or.inl (wd191 hw)) (wd46 hw) (ty := .boolean) (v' := (.int (nar .boolean (p25 ||| o1)))) (by decide) rfl (fits_nar_bool _) (g := (mkF m 38 #[rv a1, iv p2, rv a3, rv w23] [(.int (p25 ||| o1)), (.ref a1)])) rfl rfl (hb hy d29_38)
  have Fw30 := fc26.same W30
  have KK30 : Keep h0 h30 [a1] := KK24.wr W30 (Or.inl (List.mem_of_getElem? (i := 0) rfl))
  have OL30 := OL24.wr W30 pr19
  have N30 := Fr.snoc X30 N28 pr19
  obtain ⟨T31, h31, X31, e31, E31, LM31, st31⟩ := own_mk X30 hx hZ hml hnamed (wd282 hw) (wd200 hw) own_lok0 rfl rfl e30 a1 p2 #[rv a1, iv p2, rv a3, rv w23] [(.ref w23)] rfl (hb hy d29_44) (by decide) (by decide) (W := 1) rfl (by decide)
  obtain ⟨b31, g31⟩ : ∃ z, z = h30.size := ⟨_, rfl⟩
  rw [← g31] at LM31 st31
  have KK31 : Keep h0 h31 [a1] := KK30.ext E31
  have OL31 := OL30.ext E31
  obtain ⟨_, T32, L32, X32, hQ32, st32⟩ := own_cV X31 hx hZ ho hml (cw39 hw) (rm27_1 l Z a0 hw w23 b31 h31 n0 OL31 pr16) e31 (pr17.ext OL31.2) 49 #[rv a1, iv p2, rv a3, rv w23] [(.ref b31)] [] 0 rfl (hb hy d29_49) (by decide)
  obtain ⟨rfl, Nq32, ec32⟩ := hQ32
  have N32 := Fr.app N30 Nq32
  have fc34 := (((pr20.keep K24 nin0).other W30 (Or.inr (slot_ne (Or.inr (wd97 hw)) (Or.inl (wd191 hw)) (by decide) (t := (.object s30)) (t' := .boolean) (by decide) (by decide)))).ext E31)
  have fc35 := (Fw30.ext E31)
  have fc37 := (((pr21.keep K24 nin0).other W30 (Or.inr (slot_ne (Or.inr (wd95 hw)) (Or.inl (wd191 hw)) (by decide) (t := (.object s30)) (t' := .boolean) (by decide) (by decide)))).ext E31)
  have fc38 := (((pr1.keep K24 nin0).other W30 (Or.inr (slot_ne (Or.inr (wd69 hw)) (Or.inl (wd191 hw)) (by decide) (t := (.array tV)) (t' := .boolean) (by decide) (by decide)))).ext E31)
  have fc40 := (((pr22.keep K24 nin0).other W30 (Or.inr (slot_ne (Or.inl (wd104 hw)) (Or.inl (wd191 hw)) (by decide) (t := .boolean) (t' := .boolean) (by decide) (by decide)))).ext E31)
  refine ⟨none, _, _, _, _, _, X32, ec32, by decide, fun _ => rfl, fun fs hr => ?_, ?_⟩
  · refine xaloadN X0 hx hy d29_0 rfl rfl ?_
    refine st5 _ ?_
    refine xiloadN X5 hx hy d29_4 rfl ?_
    refine own_lA X5 hx hZ e5 pr2 rfl (hb hy d29_5) ?_
    refine XS.ifnonnullYes X5.here hx rfl (pc0 := 6) (pc' := 17) rfl (hb hy d29_6) rfl (by decide) (by decide) ?_
    refine xaloadN X5 hx hy d29_17 rfl rfl ?_
    refine st9 _ ?_
    refine xiloadN X9 hx hy d29_21 rfl ?_
    refine own_lA X9 hx hZ e9 pr2 rfl (hb hy d29_22) ?_
    refine xaloadN X9 hx hy d29_23 rfl rfl ?_
    refine st24 _ ?_
    refine XS.astoreN X24.here hx rfl (hb hy d29_27) rfl rfl (l' := #[rv a1, iv p2, rv a3, rv w23]) rfl ?_
    refine xaloadN X24 hx hy d29_28 rfl rfl ?_
    refine XS.dup X24.here hx rfl (hb hy d29_29) rfl rfl ?_
    refine st27 _ ?_
    refine xaloadN X27 hx hy d29_33 rfl rfl ?_
    refine st28 _ ?_
    refine XS.ior X28.here hx rfl (hb hy d29_37) rfl ?_
    refine st30 _ ?_
    refine xaloadN X30 hx hy d29_41 rfl rfl ?_
    refine xaloadN X30 hx hy d29_42 rfl rfl ?_
    refine xiloadN X30 hx hy d29_43 rfl ?_
    refine st31 _ ?_
    refine st32 _ ?_
    show SS p e below T32 m 52 #[rv a1, iv p2, rv a3, rv w23] [] _
    exact X32.returnOut hx hret (hb hy d29_52) hr
  · exact ⟨rfl, N32, KK31, fc38, fc35, fc34, fc37, fc40⟩
theorem sg199_2 (l : Launch) (Z : State) (a0 : Array Value) (hw : HW a0 Z) (p1 p2 : Int32) (q3 q4 : Int64) (p5 : Int32) (q6 q7 : Int64) (p8 p9 p10 : Int32) (a11 a12 a13 a16 a17 : Addr) (k18 : ClassId) (a19 : Addr) (q20 : Int64) (k21 : ClassId) (a22 : Addr) (k23 : ClassId) (a24 : Addr) (q25 : Int64) (k26 : ClassId) (a27 : Addr) (k28 : ClassId) (w29 : Addr) (p30 : Int32) (a31 a32 : Addr) (h0 : Heap) (n0 : Nat) (OL0 : Old Z n0 h0) (pr1 : Fld Z h0 a13 s45 s48 "Z" vi0) (pr2 : Exa Z h0 a13 s45) (pr3 : Fld Z h0 a13 s45 "sets" s8 (.ref a16)) (pr4 : Asl Z h0 a16 k18 tV o12 p5 (.ref a17)) (pr5 : Fld Z h0 a17 s43 "lows" "[J" (.ref a19)) (pr6 : Arv Z h0 a19 k21 .long o1 [(.long q20)] lj0) (pr7 : Fld Z h0 a12 s43 "lows" "[J" (.ref a22)) (pr8 : Arv Z h0 a22 k23 .long o1 [(.long q6)] lj0) (pr9 : Fld Z h0 a17 s43 "highs" "[J" (.ref a24)) (pr10 : Arv Z h0 a24 k26 .long o1 [(.long q25)] lj0) (pr11 : Fld Z h0 a12 s43 "highs" "[J" (.ref a27)) (pr12 : Arv Z h0 a27 k28 .long o1 [(.long q7)] lj0) (pr13 : (own_jmin q25 q7) < (own_jmax q20 q6)) (pr14 : q25 < q7) (pr15 : Sta Z Z.heap s32 "EMPTY" s6 (.ref w29)) (pr16 : Exa Z h0 a17 s43) (pr17 : Fld Z h0 a13 s45 s15 "Z" (.int p30)) (pr18 : Fld Z Z.heap w29 s32 "value" s3 .null) (pr19 : Exa Z Z.heap w29 s32) (pr20 : n0 ≤ a13) (pr21 : Fld Z h0 a13 s45 s11 s5 (.ref a31)) (pr22 : Fld Z h0 a13 s45 s16 s5 (.ref a32))
    (st0 : ST Z p l e s m args below meth c T0 locs cells slots h0 n0) (hcl : cells + 4 ≤ 80) (hsl : slots + 9 ≤ 320) : SG p l e s m args below meth c T0 n0 199 (LV p1 p2 q3 q4 p5 q6 q7 p8 p9 p10 a11 a12 a13 (iv o1) (iv o0) uu) := by
  obtain ⟨hZ, hx, hy, hml, ho, hnm, hret, X0, e0, N0⟩ := st0
  have pre0 : ∀ t, SS p e below T0 m 199 (LV p1 p2 q3 q4 p5 q6 q7 p8 p9 p10 a11 a12 a13 (iv o1) (iv o0) uu) [] t → SS p e below T0 m 199 (LV p1 p2 q3 q4 p5 q6 q7 p8 p9 p10 a11 a12 a13 (iv o1) (iv o0) uu) [] t := fun _ k => k
  have pre14 : ∀ t, SS p e below T0 m 204 (LV p1 p2 q3 q4 p5 q6 q7 p8 p9 p10 a11 a12 a13 (iv o1) (iv o0) uu) [(.int (p1 &&& (128 : Int32)))] t → SS p e below T0 m 199 (LV p1 p2 q3 q4 p5 q6 q7 p8 p9 p10 a11 a12 a13 (iv o1) (iv o0) uu) [] t := by
    intro t kt
    refine pre0 _ ?_
    refine xiloadN X0 hx hy at_199 rfl ?_
    refine XS.sipush X0.here hx rfl (hb hy at_200) ?_
    refine XS.iand X0.here hx rfl (hb hy at_203) rfl ?_
    exact kt
  by_cases hf14 : (p1 &&& (128 : Int32)) = o0
  · obtain ⟨_, _, _, _, XX15, hk15, hN15, sg15⟩ := sg216_0 l Z a0 hw p1 p2 q3 q4 p5 q6 q7 p8 p9 p10 a11 a12 a13 h0 n0 OL0 pr1 pr2 ⟨hZ, hx, hy, hml, ho, hnm, hret, X0, e0, N0⟩ (by show cells + 0 ≤ 80; omega) (by show slots + 0 ≤ 320; omega)
    refine ⟨_, _, _, _, XX15, hk15, hN15, fun fs hr => pre14 _ ?_⟩
    refine XS.ifYes X0.here hx rfl (pc0 := 204) (pc' := 216) rfl (hb hy at_204) rfl ((if0 _ _).trans (teq hf14).1) (by decide) (by decide) ?_
    exact sg15 fs hr
  · obtain ⟨_, T33, L33, X33, hQ33, st33⟩ := own_cV X0 hx hZ ho hml (cw12 hw) (rm29_1 l Z a0 hw a13 p5 a12 a16 a17 k18 a19 q20 k21 a22 q6 k23 a24 q25 k26 a27 q7 k28 w29 p30 a31 a32 o0 h0 n0 OL0 pr3 pr4 pr5 pr6 pr7 pr8 pr9 pr10 pr11 pr12 pr13 pr14 pr15 pr16 pr17 pr18 pr19 pr2 pr20 pr21 pr22 pr1) e0 pr2 213 (LV p1 p2 q3 q4 p5 q6 q7 p8 p9 p10 a11 a12 a13 (iv o1) (iv o0) uu) [(.int p5), (.ref a12)] [] 0 rfl (hb hy at_213) ⟨by decide, by decide, by show cells + 4 ≤ 80; omega, by show slots + 9 ≤ 320; omega⟩
    obtain ⟨rfl, Nq33, K33, u33_0, u33_1, u33_2, u33_3, u33_4⟩ := hQ33
    have OL33 := OL0.keep K33 (allS pr20 all0)
    have N33 := Fr.app N0 Nq33
    have fc35 := (pr2.keep K33)
    obtain ⟨_, _, _, _, XX34, hk34, hN34, sg34⟩ := sg216_0 l Z a0 hw p1 p2 q3 q4 p5 q6 q7 p8 p9 p10 a11 a12 a13 T33.heap n0 OL33 u33_4 fc35 ⟨hZ, hx, hy, hml, ho, hnm, hret, X33, rfl, N33⟩ (by show cells + 4 + 0 ≤ 80; omega) (by show slots + 9 + 0 ≤ 320; omega)
    refine ⟨_, _, _, _, XX34, hk34, hN34, fun fs hr => pre14 _ ?_⟩
    refine XS.ifNo X0.here hx rfl (hb hy at_204) rfl ((if0 _ _).trans (feq hf14).1) ?_
    refine xaload X0 hx hy at_207 rfl rfl ?_
    refine xiload X0 hx hy at_209 rfl ?_
    refine xaload X0 hx hy at_211 rfl rfl ?_
    refine st33 _ ?_
    exact sg34 fs hr
theorem sg199_3 (l : Launch) (Z : State) (a0 : Array Value) (hw : HW a0 Z) (p1 p2 : Int32) (q3 q4 : Int64) (p5 : Int32) (q6 q7 : Int64) (p8 p9 p10 : Int32) (a11 a12 a13 a16 a17 : Addr) (k18 : ClassId) (a19 : Addr) (q20 : Int64) (k21 : ClassId) (a22 : Addr) (k23 : ClassId) (a24 : Addr) (q25 : Int64) (k26 : ClassId) (a27 : Addr) (k28 : ClassId) (w29 : Addr) (p30 : Int32) (a31 a32 : Addr) (h0 : Heap) (n0 : Nat) (OL0 : Old Z n0 h0) (pr1 : Fld Z h0 a13 s45 s48 "Z" vi1) (pr2 : Exa Z h0 a13 s45) (pr3 : Fld Z h0 a13 s45 "sets" s8 (.ref a16)) (pr4 : Asl Z h0 a16 k18 tV o12 p5 (.ref a17)) (pr5 : Fld Z h0 a17 s43 "lows" "[J" (.ref a19)) (pr6 : Arv Z h0 a19 k21 .long o1 [(.long q20)] lj0) (pr7 : Fld Z h0 a12 s43 "lows" "[J" (.ref a22)) (pr8 : Arv Z h0 a22 k23 .long o1 [(.long q6)] lj0) (pr9 : Fld Z h0 a17 s43 "highs" "[J" (.ref a24)) (pr10 : Arv Z h0 a24 k26 .long o1 [(.long q25)] lj0) (pr11 : Fld Z h0 a12 s43 "highs" "[J" (.ref a27)) (pr12 : Arv Z h0 a27 k28 .long o1 [(.long q7)] lj0) (pr13 : (own_jmin q25 q7) < (own_jmax q20 q6)) (pr14 : q25 < q7) (pr15 : Sta Z Z.heap s32 "EMPTY" s6 (.ref w29)) (pr16 : Exa Z h0 a17 s43) (pr17 : Fld Z h0 a13 s45 s15 "Z" (.int p30)) (pr18 : Fld Z Z.heap w29 s32 "value" s3 .null) (pr19 : Exa Z Z.heap w29 s32) (pr20 : n0 ≤ a13) (pr21 : Fld Z h0 a13 s45 s11 s5 (.ref a31)) (pr22 : Fld Z h0 a13 s45 s16 s5 (.ref a32))
    (st0 : ST Z p l e s m args below meth c T0 locs cells slots h0 n0) (hcl : cells + 4 ≤ 80) (hsl : slots + 9 ≤ 320) : SG p l e s m args below meth c T0 n0 199 (LV p1 p2 q3 q4 p5 q6 q7 p8 p9 p10 a11 a12 a13 (iv o1) (iv o1) uu) := by
  obtain ⟨hZ, hx, hy, hml, ho, hnm, hret, X0, e0, N0⟩ := st0
  have pre0 : ∀ t, SS p e below T0 m 199 (LV p1 p2 q3 q4 p5 q6 q7 p8 p9 p10 a11 a12 a13 (iv o1) (iv o1) uu) [] t → SS p e below T0 m 199 (LV p1 p2 q3 q4 p5 q6 q7 p8 p9 p10 a11 a12 a13 (iv o1) (iv o1) uu) [] t := fun _ k => k
  have pre14 : ∀ t, SS p e below T0 m 204 (LV p1 p2 q3 q4 p5 q6 q7 p8 p9 p10 a11 a12 a13 (iv o1) (iv o1) uu) [(.int (p1 &&& (128 : Int32)))] t → SS p e below T0 m 199 (LV p1 p2 q3 q4 p5 q6 q7 p8 p9 p10 a11 a12 a13 (iv o1) (iv o1) uu) [] t := by
    intro t kt
    refine pre0 _ ?_
    refine xiloadN X0 hx hy at_199 rfl ?_
    refine XS.sipush X0.here hx rfl (hb hy at_200) ?_
    refine XS.iand X0.here hx rfl (hb hy at_203) rfl ?_
    exact kt
  by_cases hf14 : (p1 &&& (128 : Int32)) = o0
  · obtain ⟨_, _, _, _, XX15, hk15, hN15, sg15⟩ := sg216_1 l Z a0 hw p1 p2 q3 q4 p5 q6 q7 p8 p9 p10 a11 a12 a13 h0 n0 OL0 pr1 pr2 ⟨hZ, hx, hy, hml, ho, hnm, hret, X0, e0, N0⟩ (by show cells + 0 ≤ 80; omega) (by show slots + 0 ≤ 320; omega)
    refine ⟨_, _, _, _, XX15, hk15, hN15, fun fs hr => pre14 _ ?_⟩
    refine XS.ifYes X0.here hx rfl (pc0 := 204) (pc' := 216) rfl (hb hy at_204) rfl ((if0 _ _).trans (teq hf14).1) (by decide) (by decide) ?_
    exact sg15 fs hr
  · obtain ⟨_, T33, L33, X33, hQ33, st33⟩ := own_cV X0 hx hZ ho hml (cw12 hw) (rm29_1 l Z a0 hw a13 p5 a12 a16 a17 k18 a19 q20 k21 a22 q6 k23 a24 q25 k26 a27 q7 k28 w29 p30 a31 a32 o1 h0 n0 OL0 pr3 pr4 pr5 pr6 pr7 pr8 pr9 pr10 pr11 pr12 pr13 pr14 pr15 pr16 pr17 pr18 pr19 pr2 pr20 pr21 pr22 pr1) e0 pr2 213 (LV p1 p2 q3 q4 p5 q6 q7 p8 p9 p10 a11 a12 a13 (iv o1) (iv o1) uu) [(.int p5), (.ref a12)] [] 0 rfl (hb hy at_213) ⟨by decide, by decide, by show cells + 4 ≤ 80; omega, by show slots + 9 ≤ 320; omega⟩
    obtain ⟨rfl, Nq33, K33, u33_0, u33_1, u33_2, u33_3, u33_4⟩ := hQ33
    have OL33 := OL0.keep K33 (allS pr20 all0)
    have N33 := Fr.app N0 Nq33
    have fc35 := (pr2.keep K33)
    obtain ⟨_, _, _, _, XX34, hk34, hN34, sg34⟩ := sg216_1 l Z a0 hw p1 p2 q3 q4 p5 q6 q7 p8 p9 p10 a11 a12 a13 T33.heap n0 OL33 u33_4 fc35 ⟨hZ, hx, hy, hml, ho, hnm, hret, X33, rfl, N33⟩ (by show cells + 4 + 0 ≤ 80; omega) (by show slots + 9 + 0 ≤ 320; omega)
    refine ⟨_, _, _, _, XX34, hk34, hN34, fun fs hr => pre14 _ ?_⟩
    refine XS.ifNo X0.here hx rfl (hb hy at_204) rfl ((if0 _ _).trans (feq hf14).1) ?_
    refine xaload X0 hx hy at_207 rfl rfl ?_
    refine xiload X0 hx hy at_209 rfl ?_
    refine xaload X0 hx hy at_211 rfl rfl ?_
    refine st33 _ ?_
    exact sg34 fs hr
theorem sg168_1 (l : Launch) (Z : State) (a0 : Array Value) (hw : HW a0 Z) (p1 p2 : Int32) (q3 q4 : Int64) (p5 : Int32) (q6 q7 : Int64) (p8 p9 p10 : Int32) (a11 a12 a13 a16 a17 : Addr) (k18 : ClassId) (a19 : Addr) (q20 : Int64) (k21 : ClassId) (a22 : Addr) (k23 : ClassId) (a24 : Addr) (q25 : Int64) (k26 : ClassId) (a27 : Addr) (k28 : ClassId) (w29 : Addr) (p30 : Int32) (a31 a32 : Addr) (h0 : Heap) (n0 : Nat) (OL0 : Old Z n0 h0) (pr1 : Fld Z h0 a13 s45 s48 "Z" vi0) (pr2 : Exa Z h0 a13 s45) (pr3 : Fld Z h0 a13 s45 "sets" s8 (.ref a16)) (pr4 : Asl Z h0 a16 k18 tV o12 p5 (.ref a17)) (pr5 : Fld Z h0 a17 s43 "lows" "[J" (.ref a19)) (pr6 : Arv Z h0 a19 k21 .long o1 [(.long q20)] lj0) (pr7 : Fld Z h0 a12 s43 "lows" "[J" (.ref a22)) (pr8 : Arv Z h0 a22 k23 .long o1 [(.long q6)] lj0) (pr9 : Fld Z h0 a17 s43 "highs" "[J" (.ref a24)) (pr10 : Arv Z h0 a24 k26 .long o1 [(.long q25)] lj0) (pr11 : Fld Z h0 a12 s43 "highs" "[J" (.ref a27)) (pr12 : Arv Z h0 a27 k28 .long o1 [(.long q7)] lj0) (pr13 : (own_jmin q25 q7) < (own_jmax q20 q6)) (pr14 : q25 < q7) (pr15 : Sta Z Z.heap s32 "EMPTY" s6 (.ref w29)) (pr16 : Exa Z h0 a17 s43) (pr17 : Fld Z h0 a13 s45 s15 "Z" (.int p30)) (pr18 : Fld Z Z.heap w29 s32 "value" s3 .null) (pr19 : Exa Z Z.heap w29 s32) (pr20 : n0 ≤ a13) (pr21 : Fld Z h0 a13 s45 s11 s5 (.ref a31)) (pr22 : Fld Z h0 a13 s45 s16 s5 (.ref a32)) (pr23 : a16 ≠ a13) (pr24 : a17 ≠ a13) (pr25 : a19 ≠ a13) (pr26 : a12 ≠ a13) (pr27 : a22 ≠ a13) (pr28 : a24 ≠ a13) (pr29 : a27 ≠ a13)
    (st0 : ST Z p l e s m args below meth c T0 locs cells slots h0 n0) (hcl : cells + 4 ≤ 80) (hsl : slots + 9 ≤ 320) : SG p l e s m args below meth c T0 n0 168 (LV p1 p2 q3 q4 p5 q6 q7 p8 p9 p10 a11 a12 a13 uu uu uu) := by
  obtain ⟨hZ, hx, hy, hml, ho, hnm, hret, X0, e0, N0⟩ := st0
  have pre0 : ∀ t, SS p e below T0 m 168 (LV p1 p2 q3 q4 p5 q6 q7 p8 p9 p10 a11 a12 a13 uu uu uu) [] t → SS p e below T0 m 168 (LV p1 p2 q3 q4 p5 q6 q7 p8 p9 p10 a11 a12 a13 uu uu uu) [] t := fun _ k => k
  obtain ⟨_, T14, L14, X14, hQ14, st14⟩ := own_cV X0 hx hZ ho hml (cw11 hw) (rm13_0 l Z a0 hw a13 h0 n0 OL0 pr1) e0 pr2 170 (LV p1 p2 q3 q4 p5 q6 q7 p8 p9 p10 a11 a12 a13 uu uu uu) [] [] 0 rfl (hb hy at_170) ⟨by decide, by decide, by show cells + 0 ≤ 80; omega, by show slots + 0 ≤ 320; omega⟩
  obtain ⟨rfl, Nq14, ec14⟩ := hQ14
  have N14 := Fr.app N0 Nq14
  have pre15 : ∀ t, SS p e below T14 m 179 (LV p1 p2 q3 q4 p5 q6 q7 p8 p9 p10 a11 a12 a13 (iv o1) uu uu) [(.int (p1 &&& (64 : Int32)))] t → SS p e below T0 m 168 (LV p1 p2 q3 q4 p5 q6 q7 p8 p9 p10 a11 a12 a13 uu uu uu) [] t := by
    intro t kt
    refine pre0 _ ?_
    refine xaload X0 hx hy at_168 rfl rfl ?_
    refine st14 _ ?_
    refine XS.istore X14.here hx rfl (hb hy at_173) rfl (l' := (LV p1 p2 q3 q4 p5 q6 q7 p8 p9 p10 a11 a12 a13 (iv o1) uu uu)) rfl ?_
    refine xiloadN X14 hx hy at_175 rfl ?_
    refine XS.bipush X14.here hx rfl (hb hy at_176) ?_
    refine XS.iand X14.here hx rfl (hb hy at_178) rfl ?_
    exact kt
  by_cases hf15 : (p1 &&& (64 : Int32)) = o0
  · obtain ⟨_, _, _, _, XX33, hk33, hN33, sg33⟩ := sg199_2 l Z a0 hw p1 p2 q3 q4 p5 q6 q7 p8 p9 p10 a11 a12 a13 a16 a17 k18 a19 q20 k21 a22 k23 a24 q25 k26 a27 k28 w29 p30 a31 a32 h0 n0 OL0 pr1 pr2 pr3 pr4 pr5 pr6 pr7 pr8 pr9 pr10 pr11 pr12 pr13 pr14 pr15 pr16 pr17 pr18 pr19 pr20 pr21 pr22 ⟨hZ, hx, hy, hml, ho, hnm, hret, X14, ec14, N14⟩ (by show cells + 0 + 4 ≤ 80; omega) (by show slots + 0 + 9 ≤ 320; omega)
    refine ⟨_, _, _, _, XX33, hk33, hN33, fun fs hr => pre15 _ ?_⟩
    refine XS.ifYes X14.here hx rfl (pc0 := 179) (pc' := 186) rfl (hb hy at_179) rfl ((if0 _ _).trans (teq hf15).1) (by decide) (by decide) ?_
    refine XS.iconst X14.here hx rfl (hb hy at_186) ?_
    refine XS.istore X14.here hx rfl (hb hy at_187) rfl (l' := (LV p1 p2 q3 q4 p5 q6 q7 p8 p9 p10 a11 a12 a13 (iv o1) (iv o0) uu)) rfl ?_
    refine xiload X14 hx hy at_189 rfl ?_
    refine XS.ifYes X14.here hx rfl (pc0 := 191) (pc' := 199) rfl (hb hy at_191) rfl ((if0 _ _).trans (teq (rfl : o0 = o0)).1) (by decide) (by decide) ?_
    exact sg33 fs hr
  · obtain ⟨_, T34, L34, X34, hQ34, st34⟩ := own_cV X14 hx hZ ho hml (cw13 hw) (rm43_0 l Z a0 hw a13 a31 p30 a32 a16 h0 n0 OL0 pr2 pr1 pr20 pr21 pr17 pr22 pr3) ec14 pr2 196 (LV p1 p2 q3 q4 p5 q6 q7 p8 p9 p10 a11 a12 a13 (iv o1) (iv o1) uu) [] [] 0 rfl (hb hy at_196) ⟨by decide, by decide, by show cells + 0 + 0 ≤ 80; omega, by show slots + 0 + 0 ≤ 320; omega⟩
    obtain ⟨rfl, Nq34, K34, u34_0, u34_1, u34_2, u34_3, u34_4⟩ := hQ34
    have OL34 := OL0.keep K34 (allS pr20 all0)
    have N34 := Fr.app N14 Nq34
    have fc36 := (pr2.keep K34)
    have fc37 := (pr4.keep K34 (ninS pr23 nin0))
    have fc38 := (pr5.keep K34 (ninS pr24 nin0))
    have fc39 := (pr6.keep K34 (ninS pr25 nin0))
    have fc40 := (pr7.keep K34 (ninS pr26 nin0))
    have fc41 := (pr8.keep K34 (ninS pr27 nin0))
    have fc42 := (pr9.keep K34 (ninS pr24 nin0))
    have fc43 := (pr10.keep K34 (ninS pr28 nin0))
    have fc44 := (pr11.keep K34 (ninS pr26 nin0))
    have fc45 := (pr12.keep K34 (ninS pr29 nin0))
    have fc46 := (pr16.keep K34)
    obtain ⟨_, _, _, _, XX35, hk35, hN35, sg35⟩ := sg199_3 l Z a0 hw p1 p2 q3 q4 p5 q6 q7 p8 p9 p10 a11 a12 a13 a16 a17 k18 a19 q20 k21 a22 k23 a24 q25 k26 a27 k28 w29 p30 a31 a32 T34.heap n0 OL34 u34_0 fc36 u34_4 fc37 fc38 fc39 fc40 fc41 fc42 fc43 fc44 fc45 pr13 pr14 pr15 fc46 u34_2 pr18 pr19 pr20 u34_1 u34_3 ⟨hZ, hx, hy, hml, ho, hnm, hret, X34, rfl, N34⟩ (by show cells + 0 + 0 + 4 ≤ 80; omega) (by show slots + 0 + 0 + 9 ≤ 320; omega)
    refine ⟨_, _, _, _, XX35, hk35, hN35, fun fs hr => pre15 _ ?_⟩
    refine XS.ifNo X14.here hx rfl (hb hy at_179) rfl ((if0 _ _).trans (feq hf15).1) ?_
    refine XS.iconst X14.here hx rfl (hb hy at_182) ?_
    refine XS.goto X14.here hx rfl (pc0 := 183) (pc' := 187) rfl (hb hy at_183) (by decide) (by decide) ?_
    refine XS.istore X14.here hx rfl (hb hy at_187) rfl (l' := (LV p1 p2 q3 q4 p5 q6 q7 p8 p9 p10 a11 a12 a13 (iv o1) (iv o1) uu)) rfl ?_
    refine xiload X14 hx hy at_189 rfl ?_
    refine XS.ifNo X14.here hx rfl (hb hy at_191) rfl ((if0 _ _).trans (feq (by decide : ¬ (o1 = o0))).1) ?_
    refine xaload X14 hx hy at_194 rfl rfl ?_
    refine st34 _ ?_
    exact sg35 fs hr
theorem sg150_1 (l : Launch) (Z : State) (a0 : Array Value) (hw : HW a0 Z) (p1 p2 : Int32) (q3 q4 : Int64) (p5 : Int32) (q6 q7 : Int64) (p8 p9 p10 : Int32) (a11 a12 a13 a15 a16 : Addr) (k17 : ClassId) (a18 : Addr) (q19 : Int64) (k20 : ClassId) (a21 : Addr) (k22 : ClassId) (a23 : Addr) (q24 : Int64) (k25 : ClassId) (a26 : Addr) (k27 : ClassId) (w28 : Addr) (p29 : Int32) (a30 a31 w33 : Addr) (k34 : ClassId) (h0 : Heap) (n0 : Nat) (OL0 : Old Z n0 h0) (pr1 : Fld Z h0 a13 s45 s48 "Z" vi0) (pr2 : Exa Z h0 a13 s45) (pr3 : Fld Z h0 a13 s45 "sets" s8 (.ref a15)) (pr4 : Asl Z h0 a15 k17 tV o12 p5 (.ref a16)) (pr5 : Fld Z h0 a16 s43 "lows" "[J" (.ref a18)) (pr6 : Arv Z h0 a18 k20 .long o1 [(.long q19)] lj0) (pr7 : Fld Z h0 a12 s43 "lows" "[J" (.ref a21)) (pr8 : Arv Z h0 a21 k22 .long o1 [(.long q6)] lj0) (pr9 : Fld Z h0 a16 s43 "highs" "[J" (.ref a23)) (pr10 : Arv Z h0 a23 k25 .long o1 [(.long q24)] lj0) (pr11 : Fld Z h0 a12 s43 "highs" "[J" (.ref a26)) (pr12 : Arv Z h0 a26 k27 .long o1 [(.long q7)] lj0) (pr13 : (own_jmin q24 q7) < (own_jmax q19 q6)) (pr14 : q24 < q7) (pr15 : Sta Z Z.heap s32 "EMPTY" s6 (.ref w28)) (pr16 : Exa Z h0 a16 s43) (pr17 : Fld Z h0 a13 s45 s15 "Z" (.int p29)) (pr18 : Fld Z Z.heap w28 s32 "value" s3 .null) (pr19 : Exa Z Z.heap w28 s32) (pr20 : n0 ≤ a13) (pr21 : Fld Z h0 a13 s45 s11 s5 (.ref a30)) (pr22 : Fld Z h0 a13 s45 s16 s5 (.ref a31)) (pr23 : a15 ≠ a13) (pr24 : a16 ≠ a13) (pr25 : a18 ≠ a13) (pr26 : a12 ≠ a13) (pr27 : a21 ≠ a13) (pr28 : a23 ≠ a13) (pr29 : a26 ≠ a13) (pr30 : Fld Z h0 a31 s26 s36 "I" vi0) (pr31 : Exa Z h0 a31 s27) (pr32 : n0 ≤ a31) (pr33 : Fld Z h0 a31 s27 s12 s7 (.ref w33)) (pr34 : Fld Z h0 a31 s27 "size" "I" vi0) (pr35 : Arv Z Z.heap w33 k34 (.object s20) o0 [] .null) (pr36 : Sta Z Z.heap s27 s1 s7 (.ref w33)) (pr37 : a13 ≠ a31) (pr38 : a15 ≠ a31) (pr39 : a16 ≠ a31) (pr40 : a18 ≠ a31) (pr41 : a12 ≠ a31) (pr42 : a21 ≠ a31) (pr43 : a23 ≠ a31) (pr44 : a26 ≠ a31)
    (st0 : ST Z p l e s m args below meth c T0 locs cells slots h0 n0) (hcl : cells + 6 ≤ 80) (hsl : slots + 22 ≤ 320) : SG p l e s m args below meth c T0 n0 150 (LV p1 p2 q3 q4 p5 q6 q7 p8 p9 p10 a11 a12 a13 uu uu uu) := by
  obtain ⟨hZ, hx, hy, hml, ho, hnm, hret, X0, e0, N0⟩ := st0
  have pre0 : ∀ t, SS p e below T0 m 150 (LV p1 p2 q3 q4 p5 q6 q7 p8 p9 p10 a11 a12 a13 uu uu uu) [] t → SS p e below T0 m 150 (LV p1 p2 q3 q4 p5 q6 q7 p8 p9 p10 a11 a12 a13 uu uu uu) [] t := fun _ k => k
  have pre14 : ∀ t, SS p e below T0 m 154 (LV p1 p2 q3 q4 p5 q6 q7 p8 p9 p10 a11 a12 a13 uu uu uu) [(.int (p1 &&& (16 : Int32)))] t → SS p e below T0 m 150 (LV p1 p2 q3 q4 p5 q6 q7 p8 p9 p10 a11 a12 a13 uu uu uu) [] t := by
    intro t kt
    refine pre0 _ ?_
    refine xiloadN X0 hx hy at_150 rfl ?_
    refine XS.bipush X0.here hx rfl (hb hy at_151) ?_
    refine XS.iand X0.here hx rfl (hb hy at_153) rfl ?_
    exact kt
  by_cases hf14 : (p1 &&& (16 : Int32)) = o0
  · obtain ⟨_, _, _, _, XX32, hk32, hN32, sg32⟩ := sg168_1 l Z a0 hw p1 p2 q3 q4 p5 q6 q7 p8 p9 p10 a11 a12 a13 a15 a16 k17 a18 q19 k20 a21 k22 a23 q24 k25 a26 k27 w28 p29 a30 a31 h0 n0 OL0 pr1 pr2 pr3 pr4 pr5 pr6 pr7 pr8 pr9 pr10 pr11 pr12 pr13 pr14 pr15 pr16 pr17 pr18 pr19 pr20 pr21 pr22 pr23 pr24 pr25 pr26 pr27 pr28 pr29 ⟨hZ, hx, hy, hml, ho, hnm, hret, X0, e0, N0⟩ (by show cells + 4 ≤ 80; omega) (by show slots + 9 ≤ 320; omega)
    refine ⟨_, _, _, _, XX32, hk32, hN32, fun fs hr => pre14 _ ?_⟩
    refine XS.ifYes X0.here hx rfl (pc0 := 154) (pc' := 168) rfl (hb hy at_154) rfl ((if0 _ _).trans (teq hf14).1) (by decide) (by decide) ?_
    exact sg32 fs hr
  · obtain ⟨_, T35, L35, X35, hQ35, st35⟩ := own_cV X0 hx hZ ho hml (cw21 hw) (rm40_0 l Z a0 hw a13 p8 a11 p10 a31 w33 k34 h0 n0 OL0 pr22 pr30 pr31 pr32 pr33 pr34 pr35 pr36) e0 pr2 165 (LV p1 p2 q3 q4 p5 q6 q7 p8 p9 p10 a11 a12 a13 uu uu uu) [(.int p8), (.ref a11), (.int p10)] [] 0 rfl (hb hy at_165) ⟨by decide, by decide, by show cells + 2 ≤ 80; omega, by show slots + 13 ≤ 320; omega⟩
    obtain ⟨b35_0, b35_1, kx35_0, rfl, Nq35, K35, u35_0, u35_1, u35_2, u35_3, u35_4, u35_5, u35_6, u35_7, u35_8, u35_9, u35_10, u35_11, u35_12⟩ := hQ35
    have OL35 := OL0.keep K35 (allS pr32 all0)
    have N35 := Fr.app N0 Nq35
    have fc37 := (pr1.keep K35 (ninS pr37 nin0))
    have fc38 := (pr2.keep K35)
    have fc39 := (pr3.keep K35 (ninS pr37 nin0))
    have fc40 := (pr4.keep K35 (ninS pr38 nin0))
    have fc41 := (pr5.keep K35 (ninS pr39 nin0))
    have fc42 := (pr6.keep K35 (ninS pr40 nin0))
    have fc43 := (pr7.keep K35 (ninS pr41 nin0))
    have fc44 := (pr8.keep K35 (ninS pr42 nin0))
    have fc45 := (pr9.keep K35 (ninS pr39 nin0))
    have fc46 := (pr10.keep K35 (ninS pr43 nin0))
    have fc47 := (pr11.keep K35 (ninS pr41 nin0))
    have fc48 := (pr12.keep K35 (ninS pr44 nin0))
    have fc49 := (pr16.keep K35)
    have fc50 := (pr17.keep K35 (ninS pr37 nin0))
    have fc51 := (pr21.keep K35 (ninS pr37 nin0))
    have fc52 := (pr22.keep K35 (ninS pr37 nin0))
    obtain ⟨_, _, _, _, XX36, hk36, hN36, sg36⟩ := sg168_1 l Z a0 hw p1 p2 q3 q4 p5 q6 q7 p8 p9 p10 a11 a12 a13 a15 a16 k17 a18 q19 k20 a21 k22 a23 q24 k25 a26 k27 w28 p29 a30 a31 T35.heap n0 OL35 fc37 fc38 fc39 fc40 fc41 fc42 fc43 fc44 fc45 fc46 fc47 fc48 pr13 pr14 pr15 fc49 fc50 pr18 pr19 pr20 fc51 fc52 pr23 pr24 pr25 pr26 pr27 pr28 pr29 ⟨hZ, hx, hy, hml, ho, hnm, hret, X35, rfl, N35⟩ (by show cells + 2 + 4 ≤ 80; omega) (by show slots + 13 + 9 ≤ 320; omega)
    refine ⟨_, _, _, _, XX36, hk36, hN36, fun fs hr => pre14 _ ?_⟩
    refine XS.ifNo X0.here hx rfl (hb hy at_154) rfl ((if0 _ _).trans (feq hf14).1) ?_
    refine xaload X0 hx hy at_157 rfl rfl ?_
    refine xiload X0 hx hy at_159 rfl ?_
    refine xaload X0 hx hy at_161 rfl rfl ?_
    refine xiload X0 hx hy at_163 rfl ?_
    refine st35 _ ?_
    exact sg36 fs hr
theorem sg136_1 (l : Launch) (Z : State) (a0 : Array Value) (hw : HW a0 Z) (p1 p2 : Int32) (q3 q4 : Int64) (p5 : Int32) (q6 q7 : Int64) (p8 p9 p10 : Int32) (a11 a12 a13 a15 a16 : Addr) (k17 : ClassId) (a18 : Addr) (q19 : Int64) (k20 : ClassId) (a21 : Addr) (k22 : ClassId) (a23 : Addr) (q24 : Int64) (k25 : ClassId) (a26 : Addr) (k27 : ClassId) (w28 : Addr) (p29 : Int32) (a30 a31 w32 : Addr) (k33 : ClassId) (h0 : Heap) (n0 : Nat) (OL0 : Old Z n0 h0) (pr1 : Fld Z h0 a13 s45 s48 "Z" vi0) (pr2 : Exa Z h0 a13 s45) (pr3 : Fld Z h0 a13 s45 "sets" s8 (.ref a15)) (pr4 : Asl Z h0 a15 k17 tV o12 p5 (.ref a16)) (pr5 : Fld Z h0 a16 s43 "lows" "[J" (.ref a18)) (pr6 : Arv Z h0 a18 k20 .long o1 [(.long q19)] lj0) (pr7 : Fld Z h0 a12 s43 "lows" "[J" (.ref a21)) (pr8 : Arv Z h0 a21 k22 .long o1 [(.long q6)] lj0) (pr9 : Fld Z h0 a16 s43 "highs" "[J" (.ref a23)) (pr10 : Arv Z h0 a23 k25 .long o1 [(.long q24)] lj0) (pr11 : Fld Z h0 a12 s43 "highs" "[J" (.ref a26)) (pr12 : Arv Z h0 a26 k27 .long o1 [(.long q7)] lj0) (pr13 : (own_jmin q24 q7) < (own_jmax q19 q6)) (pr14 : q24 < q7) (pr15 : Sta Z Z.heap s32 "EMPTY" s6 (.ref w28)) (pr16 : Exa Z h0 a16 s43) (pr17 : Fld Z h0 a13 s45 s15 "Z" (.int p29)) (pr18 : Fld Z Z.heap w28 s32 "value" s3 .null) (pr19 : Exa Z Z.heap w28 s32) (pr20 : n0 ≤ a13) (pr21 : Fld Z h0 a13 s45 s11 s5 (.ref a30)) (pr22 : Fld Z h0 a13 s45 s16 s5 (.ref a31)) (pr23 : a15 ≠ a13) (pr24 : a16 ≠ a13) (pr25 : a18 ≠ a13) (pr26 : a12 ≠ a13) (pr27 : a21 ≠ a13) (pr28 : a23 ≠ a13) (pr29 : a26 ≠ a13) (pr30 : Fld Z h0 a31 s26 s36 "I" vi0) (pr31 : Exa Z h0 a31 s27) (pr32 : n0 ≤ a31) (pr33 : Fld Z h0 a31 s27 s12 s7 (.ref w32)) (pr34 : Fld Z h0 a31 s27 "size" "I" vi0) (pr35 : Arv Z Z.heap w32 k33 (.object s20) o0 [] .null) (pr36 : Sta Z Z.heap s27 s1 s7 (.ref w32)) (pr37 : a13 ≠ a31) (pr38 : a15 ≠ a31) (pr39 : a16 ≠ a31) (pr40 : a18 ≠ a31) (pr41 : a12 ≠ a31) (pr42 : a21 ≠ a31) (pr43 : a23 ≠ a31) (pr44 : a26 ≠ a31) (pr45 : Fld Z h0 a30 s26 s36 "I" vi0) (pr46 : Exa Z h0 a30 s27) (pr47 : n0 ≤ a30) (pr48 : Fld Z h0 a30 s27 s12 s7 (.ref w32)) (pr49 : Fld Z h0 a30 s27 "size" "I" vi0) (pr50 : Exa Z h0 a12 s43) (pr51 : a13 ≠ a30) (pr52 : a15 ≠ a30) (pr53 : a16 ≠ a30) (pr54 : a18 ≠ a30) (pr55 : a12 ≠ a30) (pr56 : a21 ≠ a30) (pr57 : a23 ≠ a30) (pr58 : a26 ≠ a30) (pr59 : a31 ≠ a30)
    (st0 : ST Z p l e s m args below meth c T0 locs cells slots h0 n0) (hcl : cells + 7 ≤ 80) (hsl : slots + 32 ≤ 320) : SG p l e s m args below meth c T0 n0 136 (LV p1 p2 q3 q4 p5 q6 q7 p8 p9 p10 a11 a12 a13 uu uu uu) := by
  obtain ⟨hZ, hx, hy, hml, ho, hnm, hret, X0, e0, N0⟩ := st0
  have pre0 : ∀ t, SS p e below T0 m 136 (LV p1 p2 q3 q4 p5 q6 q7 p8 p9 p10 a11 a12 a13 uu uu uu) [] t → SS p e below T0 m 136 (LV p1 p2 q3 q4 p5 q6 q7 p8 p9 p10 a11 a12 a13 uu uu uu) [] t := fun _ k => k
  have pre14 : ∀ t, SS p e below T0 m 140 (LV p1 p2 q3 q4 p5 q6 q7 p8 p9 p10 a11 a12 a13 uu uu uu) [(.int (p1 &&& (8 : Int32)))] t → SS p e below T0 m 136 (LV p1 p2 q3 q4 p5 q6 q7 p8 p9 p10 a11 a12 a13 uu uu uu) [] t := by
    intro t kt
    refine pre0 _ ?_
    refine xiloadN X0 hx hy at_136 rfl ?_
    refine XS.bipush X0.here hx rfl (hb hy at_137) ?_
    refine XS.iand X0.here hx rfl (hb hy at_139) rfl ?_
    exact kt
  by_cases hf14 : (p1 &&& (8 : Int32)) = o0
  · obtain ⟨_, _, _, _, XX34, hk34, hN34, sg34⟩ := sg150_1 l Z a0 hw p1 p2 q3 q4 p5 q6 q7 p8 p9 p10 a11 a12 a13 a15 a16 k17 a18 q19 k20 a21 k22 a23 q24 k25 a26 k27 w28 p29 a30 a31 w32 k33 h0 n0 OL0 pr1 pr2 pr3 pr4 pr5 pr6 pr7 pr8 pr9 pr10 pr11 pr12 pr13 pr14 pr15 pr16 pr17 pr18 pr19 pr20 pr21 pr22 pr23 pr24 pr25 pr26 pr27 pr28 pr29 pr30 pr31 pr32 pr33 pr34 pr35 pr36 pr37 pr38 pr39 pr40 pr41 pr42 pr43 pr44 ⟨hZ, hx, hy, hml, ho, hnm, hret, X0, e0, N0⟩ (by show cells + 6 ≤ 80; omega) (by show slots + 22 ≤ 320; omega)
    refine ⟨_, _, _, _, XX34, hk34, hN34, fun fs hr => pre14 _ ?_⟩
    refine XS.ifYes X0.here hx rfl (pc0 := 140) (pc' := 150) rfl (hb hy at_140) rfl ((if0 _ _).trans (teq hf14).1) (by decide) (by decide) ?_
    exact sg34 fs hr
  · obtain ⟨_, T35, L35, X35, hQ35, st35⟩ := own_cV X0 hx hZ ho hml (cw22 hw) (rm30_0 l Z a0 hw a13 a12 a30 w32 k33 h0 n0 OL0 pr21 pr45 pr46 pr47 pr48 pr49 pr35 pr36 pr50) e0 pr2 147 (LV p1 p2 q3 q4 p5 q6 q7 p8 p9 p10 a11 a12 a13 uu uu uu) [(.ref a12)] [] 0 rfl (hb hy at_147) ⟨by decide, by decide, by show cells + 1 ≤ 80; omega, by show slots + 10 ≤ 320; omega⟩
    obtain ⟨b35_0, kx35_0, rfl, Nq35, K35, u35_0, u35_1, u35_2, u35_3, u35_4, u35_5, u35_6⟩ := hQ35
    have OL35 := OL0.keep K35 (allS pr47 all0)
    have N35 := Fr.app N0 Nq35
    have fc37 := (pr1.keep K35 (ninS pr51 nin0))
    have fc38 := (pr2.keep K35)
    have fc39 := (pr3.keep K35 (ninS pr51 nin0))
    have fc40 := (pr4.keep K35 (ninS pr52 nin0))
    have fc41 := (pr5.keep K35 (ninS pr53 nin0))
    have fc42 := (pr6.keep K35 (ninS pr54 nin0))
    have fc43 := (pr7.keep K35 (ninS pr55 nin0))
    have fc44 := (pr8.keep K35 (ninS pr56 nin0))
    have fc45 := (pr9.keep K35 (ninS pr53 nin0))
    have fc46 := (pr10.keep K35 (ninS pr57 nin0))
    have fc47 := (pr11.keep K35 (ninS pr55 nin0))
    have fc48 := (pr12.keep K35 (ninS pr58 nin0))
    have fc49 := (pr16.keep K35)
    have fc50 := (pr17.keep K35 (ninS pr51 nin0))
    have fc51 := (pr21.keep K35 (ninS pr51 nin0))
    have fc52 := (pr22.keep K35 (ninS pr51 nin0))
    have fc53 := (pr30.keep K35 (ninS pr59 nin0))
    have fc54 := (pr31.keep K35)
    have fc55 := (pr33.keep K35 (ninS pr59 nin0))
    have fc56 := (pr34.keep K35 (ninS pr59 nin0))
    obtain ⟨_, _, _, _, XX36, hk36, hN36, sg36⟩ := sg150_1 l Z a0 hw p1 p2 q3 q4 p5 q6 q7 p8 p9 p10 a11 a12 a13 a15 a16 k17 a18 q19 k20 a21 k22 a23 q24 k25 a26 k27 w28 p29 a30 a31 w32 k33 T35.heap n0 OL35 fc37 fc38 fc39 fc40 fc41 fc42 fc43 fc44 fc45 fc46 fc47 fc48 pr13 pr14 pr15 fc49 fc50 pr18 pr19 pr20 fc51 fc52 pr23 pr24 pr25 pr26 pr27 pr28 pr29 fc53 fc54 pr32 fc55 fc56 pr35 pr36 pr37 pr38 pr39 pr40 pr41 pr42 pr43 pr44 ⟨hZ, hx, hy, hml, ho, hnm, hret, X35, rfl, N35⟩ (by show cells + 1 + 6 ≤ 80; omega) (by show slots + 10 + 22 ≤ 320; omega)
    refine ⟨_, _, _, _, XX36, hk36, hN36, fun fs hr => pre14 _ ?_⟩
    refine XS.ifNo X0.here hx rfl (hb hy at_140) rfl ((if0 _ _).trans (feq hf14).1) ?_
    refine xaload X0 hx hy at_143 rfl rfl ?_
    refine xaload X0 hx hy at_145 rfl rfl ?_
    refine st35 _ ?_
    exact sg36 fs hr
theorem sg125_1 (l : Launch) (Z : State) (a0 : Array Value) (hw : HW a0 Z) (p1 p2 : Int32) (q3 q4 : Int64) (p5 : Int32) (q6 q7 : Int64) (p8 p9 p10 : Int32) (a11 a12 a13 a15 a16 : Addr) (k17 : ClassId) (a18 : Addr) (q19 : Int64) (k20 : ClassId) (a21 : Addr) (k22 : ClassId) (a23 : Addr) (q24 : Int64) (k25 : ClassId) (a26 : Addr) (k27 : ClassId) (w28 : Addr) (p29 : Int32) (a30 a31 w32 : Addr) (k33 : ClassId) (q36 : Int64) (h0 : Heap) (n0 : Nat) (OL0 : Old Z n0 h0) (pr1 : Fld Z h0 a13 s45 s48 "Z" vi0) (pr2 : Exa Z h0 a13 s45) (pr3 : Fld Z h0 a13 s45 "sets" s8 (.ref a15)) (pr4 : Asl Z h0 a15 k17 tV o12 p5 (.ref a16)) (pr5 : Fld Z h0 a16 s43 "lows" "[J" (.ref a18)) (pr6 : Arv Z h0 a18 k20 .long o1 [(.long q19)] lj0) (pr7 : Fld Z h0 a12 s43 "lows" "[J" (.ref a21)) (pr8 : Arv Z h0 a21 k22 .long o1 [(.long q6)] lj0) (pr9 : Fld Z h0 a16 s43 "highs" "[J" (.ref a23)) (pr10 : Arv Z h0 a23 k25 .long o1 [(.long q24)] lj0) (pr11 : Fld Z h0 a12 s43 "highs" "[J" (.ref a26)) (pr12 : Arv Z h0 a26 k27 .long o1 [(.long q7)] lj0) (pr13 : (own_jmin q24 q7) < (own_jmax q19 q6)) (pr14 : q24 < q7) (pr15 : Sta Z Z.heap s32 "EMPTY" s6 (.ref w28)) (pr16 : Exa Z h0 a16 s43) (pr17 : Fld Z h0 a13 s45 s15 "Z" (.int p29)) (pr18 : Fld Z Z.heap w28 s32 "value" s3 .null) (pr19 : Exa Z Z.heap w28 s32) (pr20 : n0 ≤ a13) (pr21 : Fld Z h0 a13 s45 s11 s5 (.ref a30)) (pr22 : Fld Z h0 a13 s45 s16 s5 (.ref a31)) (pr23 : a15 ≠ a13) (pr24 : a16 ≠ a13) (pr25 : a18 ≠ a13) (pr26 : a12 ≠ a13) (pr27 : a21 ≠ a13) (pr28 : a23 ≠ a13) (pr29 : a26 ≠ a13) (pr30 : Fld Z h0 a31 s26 s36 "I" vi0) (pr31 : Exa Z h0 a31 s27) (pr32 : n0 ≤ a31) (pr33 : Fld Z h0 a31 s27 s12 s7 (.ref w32)) (pr34 : Fld Z h0 a31 s27 "size" "I" vi0) (pr35 : Arv Z Z.heap w32 k33 (.object s20) o0 [] .null) (pr36 : Sta Z Z.heap s27 s1 s7 (.ref w32)) (pr37 : a13 ≠ a31) (pr38 : a15 ≠ a31) (pr39 : a16 ≠ a31) (pr40 : a18 ≠ a31) (pr41 : a12 ≠ a31) (pr42 : a21 ≠ a31) (pr43 : a23 ≠ a31) (pr44 : a26 ≠ a31) (pr45 : Fld Z h0 a30 s26 s36 "I" vi0) (pr46 : Exa Z h0 a30 s27) (pr47 : n0 ≤ a30) (pr48 : Fld Z h0 a30 s27 s12 s7 (.ref w32)) (pr49 : Fld Z h0 a30 s27 "size" "I" vi0) (pr50 : Exa Z h0 a12 s43) (pr51 : a13 ≠ a30) (pr52 : a15 ≠ a30) (pr53 : a16 ≠ a30) (pr54 : a18 ≠ a30) (pr55 : a12 ≠ a30) (pr56 : a21 ≠ a30) (pr57 : a23 ≠ a30) (pr58 : a26 ≠ a30) (pr59 : a31 ≠ a30) (pr60 : Arv Z h0 a18 k20 .long o1 [(.long q36)] lj0) (pr61 : (own_jmin q24 q7) < (own_jmax q36 q6)) (pr62 : a31 ≠ a13) (pr63 : a30 ≠ a13)
    (st0 : ST Z p l e s m args below meth c T0 locs cells slots h0 n0) (hcl : cells + 7 ≤ 80) (hsl : slots + 32 ≤ 320) : SG p l e s m args below meth c T0 n0 125 (LV p1 p2 q3 q4 p5 q6 q7 p8 p9 p10 a11 a12 a13 uu uu uu) := by
  obtain ⟨hZ, hx, hy, hml, ho, hnm, hret, X0, e0, N0⟩ := st0
  have pre0 : ∀ t, SS p e below T0 m 125 (LV p1 p2 q3 q4 p5 q6 q7 p8 p9 p10 a11 a12 a13 uu uu uu) [] t → SS p e below T0 m 125 (LV p1 p2 q3 q4 p5 q6 q7 p8 p9 p10 a11 a12 a13 uu uu uu) [] t := fun _ k => k
  have pre14 : ∀ t, SS p e below T0 m 128 (LV p1 p2 q3 q4 p5 q6 q7 p8 p9 p10 a11 a12 a13 uu uu uu) [(.int (p1 &&& (4 : Int32)))] t → SS p e below T0 m 125 (LV p1 p2 q3 q4 p5 q6 q7 p8 p9 p10 a11 a12 a13 uu uu uu) [] t := by
    intro t kt
    refine pre0 _ ?_
    refine xiloadN X0 hx hy at_125 rfl ?_
    refine XS.iconst X0.here hx rfl (hb hy at_126) ?_
    refine XS.iand X0.here hx rfl (hb hy at_127) rfl ?_
    exact kt
  by_cases hf14 : (p1 &&& (4 : Int32)) = o0
  · obtain ⟨_, _, _, _, XX34, hk34, hN34, sg34⟩ := sg136_1 l Z a0 hw p1 p2 q3 q4 p5 q6 q7 p8 p9 p10 a11 a12 a13 a15 a16 k17 a18 q19 k20 a21 k22 a23 q24 k25 a26 k27 w28 p29 a30 a31 w32 k33 h0 n0 OL0 pr1 pr2 pr3 pr4 pr5 pr6 pr7 pr8 pr9 pr10 pr11 pr12 pr13 pr14 pr15 pr16 pr17 pr18 pr19 pr20 pr21 pr22 pr23 pr24 pr25 pr26 pr27 pr28 pr29 pr30 pr31 pr32 pr33 pr34 pr35 pr36 pr37 pr38 pr39 pr40 pr41 pr42 pr43 pr44 pr45 pr46 pr47 pr48 pr49 pr50 pr51 pr52 pr53 pr54 pr55 pr56 pr57 pr58 pr59 ⟨hZ, hx, hy, hml, ho, hnm, hret, X0, e0, N0⟩ (by show cells + 7 ≤ 80; omega) (by show slots + 32 ≤ 320; omega)
    refine ⟨_, _, _, _, XX34, hk34, hN34, fun fs hr => pre14 _ ?_⟩
    refine XS.ifYes X0.here hx rfl (pc0 := 128) (pc' := 136) rfl (hb hy at_128) rfl ((if0 _ _).trans (teq hf14).1) (by decide) (by decide) ?_
    exact sg34 fs hr
  · obtain ⟨_, T35, L35, X35, hQ35, st35⟩ := own_cV X0 hx hZ ho hml (cw23 hw) (rm44_0 l Z a0 hw a13 p29 a30 a31 a15 h0 n0 OL0 pr2 pr17 pr20 pr21 pr22 pr3 pr1) e0 pr2 133 (LV p1 p2 q3 q4 p5 q6 q7 p8 p9 p10 a11 a12 a13 uu uu uu) [] [] 0 rfl (hb hy at_133) ⟨by decide, by decide, by show cells + 0 ≤ 80; omega, by show slots + 0 ≤ 320; omega⟩
    obtain ⟨rfl, Nq35, K35, u35_0, u35_1, u35_2, u35_3, u35_4⟩ := hQ35
    have OL35 := OL0.keep K35 (allS pr20 all0)
    have N35 := Fr.app N0 Nq35
    have fc38 := (pr2.keep K35)
    have fc39 := (pr4.keep K35 (ninS pr23 nin0))
    have fc40 := (pr5.keep K35 (ninS pr24 nin0))
    have fc41 := (pr60.keep K35 (ninS pr25 nin0))
    have fc42 := (pr7.keep K35 (ninS pr26 nin0))
    have fc43 := (pr8.keep K35 (ninS pr27 nin0))
    have fc44 := (pr9.keep K35 (ninS pr24 nin0))
    have fc45 := (pr10.keep K35 (ninS pr28 nin0))
    have fc46 := (pr11.keep K35 (ninS pr26 nin0))
    have fc47 := (pr12.keep K35 (ninS pr29 nin0))
    have fc48 := (pr16.keep K35)
    have fc49 := (pr30.keep K35 (ninS pr62 nin0))
    have fc50 := (pr31.keep K35)
    have fc51 := (pr33.keep K35 (ninS pr62 nin0))
    have fc52 := (pr34.keep K35 (ninS pr62 nin0))
    have fc53 := (pr45.keep K35 (ninS pr63 nin0))
    have fc54 := (pr46.keep K35)
    have fc55 := (pr48.keep K35 (ninS pr63 nin0))
    have fc56 := (pr49.keep K35 (ninS pr63 nin0))
    have fc57 := (pr50.keep K35)
    obtain ⟨_, _, _, _, XX37, hk37, hN37, sg37⟩ := sg136_1 l Z a0 hw p1 p2 q3 q4 p5 q6 q7 p8 p9 p10 a11 a12 a13 a15 a16 k17 a18 q36 k20 a21 k22 a23 q24 k25 a26 k27 w28 o1 a30 a31 w32 k33 T35.heap n0 OL35 u35_4 fc38 u35_3 fc39 fc40 fc41 fc42 fc43 fc44 fc45 fc46 fc47 pr61 pr14 pr15 fc48 u35_0 pr18 pr19 pr20 u35_1 u35_2 pr23 pr24 pr25 pr26 pr27 pr28 pr29 fc49 fc50 pr32 fc51 fc52 pr35 pr36 pr37 pr38 pr39 pr40 pr41 pr42 pr43 pr44 fc53 fc54 pr47 fc55 fc56 fc57 pr51 pr52 pr53 pr54 pr55 pr56 pr57 pr58 pr59 ⟨hZ, hx, hy, hml, ho, hnm, hret, X35, rfl, N35⟩ (by show cells + 0 + 7 ≤ 80; omega) (by show slots + 0 + 32 ≤ 320; omega)
    refine ⟨_, _, _, _, XX37, hk37, hN37, fun fs hr => pre14 _ ?_⟩
    refine XS.ifNo X0.here hx rfl (hb hy at_128) rfl ((if0 _ _).trans (feq hf14).1) ?_
    refine xaload X0 hx hy at_131 rfl rfl ?_
    refine st35 _ ?_
    exact sg37 fs hr
theorem d17_101 : DC cb17 101 (.lload 5) 2 := by decide +kernel
theorem d17_103 : DC cb17 103 (.aload_n 0) 1 := by decide +kernel
theorem d17_104 : DC cb17 104 (.getfield 13) 3 := by decide +kernel
theorem d17_107 : DC cb17 107 (.iload 4) 2 := by decide +kernel
theorem d17_109 : DC cb17 109 (.laload) 1 := by decide +kernel
theorem d17_110 : DC cb17 110 (.lcmp) 1 := by decide +kernel
theorem d17_111 : DC cb17 111 (.ifCond .gt 35) 3 := by decide +kernel
theorem d17_114 : DC cb17 114 (.aload_n 2) 1 := by decide +kernel
theorem d17_115 : DC cb17 115 (.lload 5) 2 := by decide +kernel
theorem d17_117 : DC cb17 117 (.aload_n 1) 1 := by decide +kernel
theorem d17_118 : DC cb17 118 (.getfield 7) 3 := by decide +kernel
theorem d17_121 : DC cb17 121 (.iload 7) 2 := by decide +kernel
theorem d17_123 : DC cb17 123 (.laload) 1 := by decide +kernel
theorem d17_124 : DC cb17 124 (.lconst 1) 1 := by decide +kernel
theorem d17_125 : DC cb17 125 (.lsub) 1 := by decide +kernel
theorem d17_126 : DC cb17 126 (.invokevirtual 105) 3 := by decide +kernel
theorem d17_129 : DC cb17 129 (.aload_n 1) 1 := by decide +kernel
theorem d17_130 : DC cb17 130 (.getfield 13) 3 := by decide +kernel
theorem d17_133 : DC cb17 133 (.iload 7) 2 := by decide +kernel
theorem d17_135 : DC cb17 135 (.laload) 1 := by decide +kernel
theorem d17_136 : DC cb17 136 (.lconst 1) 1 := by decide +kernel
theorem d17_137 : DC cb17 137 (.ladd) 1 := by decide +kernel
theorem d17_138 : DC cb17 138 (.lstore 5) 2 := by decide +kernel
theorem d17_140 : DC cb17 140 (.iinc 7 1) 3 := by decide +kernel
theorem d17_143 : DC cb17 143 (.goto (-70)) 3 := by decide +kernel
theorem rm17_1 (l : Launch) (Z : State) (a0 : Array Value) (hw : HW a0 Z) (a1 a2 a4 : Addr) (q7 : Int64) (k8 : ClassId) (a11 : Addr) (q14 : Int64) (k15 : ClassId) (a33 : Addr) (q36 : Int64) (k37 : ClassId) (a45 : Addr) (q48 : Int64) (k49 : ClassId) (w68 : Addr) (h0 : Heap) (n0 : Nat) (OL0 : Old Z n0 h0) (pr1 : Fld Z h0 a1 s43 "lows" "[J" (.ref a4)) (pr2 : Arv Z h0 a4 k8 .long o1 [(.long q7)] lj0) (pr3 : Fld Z h0 a2 s43 "lows" "[J" (.ref a11)) (pr4 : Arv Z h0 a11 k15 .long o1 [(.long q14)] lj0) (pr5 : Fld Z h0 a2 s43 "highs" "[J" (.ref a33)) (pr6 : Arv Z h0 a33 k37 .long o1 [(.long q36)] lj0) (pr7 : ¬ (q36 < q7)) (pr8 : Fld Z h0 a1 s43 "highs" "[J" (.ref a45)) (pr9 : Arv Z h0 a45 k49 .long o1 [(.long q48)] lj0) (pr10 : ¬ (q48 < q14)) (pr11 : ¬ (q48 < q7)) (pr12 : (q14 - (1 : Int64)) < q7) (pr13 : q48 < (q36 + (1 : Int64))) (pr14 : Sta Z Z.heap s32 "EMPTY" s6 (.ref w68)) :
    MF l Z mn17 prog_63_method_5_code 8 (some (.object s32)) ⟨2, 3, 7, 26⟩ #[(.ref a1), (.ref a2)] h0 (fun v h L => v = some (.ref w68) ∧ Fr n0 L ∧ Keep h0 h []) := by
  refine own_start (plainFor_of_name pn_2) (fun m => (ef_17_35 m a1 a2)) ?_
  intro p e s m below meth c s₁ hZ hx hy hml ho hnm hret X0 e0
  have N0 := Fr.nil n0
  obtain ⟨T3, h3, X3, e3, E3, A3, D3, -, st3⟩ := newO X0 hx hZ ho (wd136 hw) (wd137 hw) (wd138 hw) e0 (g := (mkF m 0 #[rv a1, rv a2, uu, uu, uu, uu, uu, uu] [])) rfl (hb hy d17_0) (by decide) (by decide)
  obtain ⟨b3, g3⟩ : ∃ z, z = h0.size := ⟨_, rfl⟩
  rw [← g3] at A3 D3 st3
  have g_b3 : n0 ≤ b3 := (Nat.le_trans (Nat.le_trans (Nat.le_of_eq OL0.1.symm) OL0.2.1) (Nat.le_of_eq g3.symm))
  have sz_b3 : h0.size ≤ b3 := (Nat.le_trans (Keep.refl h0 []).1 (Nat.le_of_eq g3.symm))
  have KK3 : Keep h0 h3 [] := (Keep.refl h0 []).ext E3
  have OL3 := OL0.ext E3
  have F_lows_b3 : Fld Z h3 b3 s44 "lows" "[J" .null := D3 (Or.inr (wd144 hw)) (ty := (.array .long)) (by decide)
  have F_highs_b3 : Fld Z h3 b3 s44 "highs" "[J" .null := D3 (Or.inr (wd146 hw)) (ty := (.array .long)) (by decide)
  have F_count_b3 : Fld Z h3 b3 s44 "count" "I" vi0 := D3 (Or.inl (wd153 hw)) (ty := .int) (by decide)
  have fc5 := (pr1.ext E3)
  obtain ⟨T6, X6, e6, st6⟩ := gF X3 hx hZ ho (wd41 hw) Via.refl e3 fc5 5 #[rv a1, rv a2, uu, uu, uu, uu, uu, uu] [(.ref b3), (.ref b3)] (hb hy d17_5)
  have fc9 := (pr2.ext E3)
  obtain ⟨cl10, Ar10, -, Sz10, Nn10, -, -⟩ := id fc9
  have fc12 := (pr3.ext E3)
  obtain ⟨T13, X13, e13, st13⟩ := gF X6 hx hZ ho (wd41 hw) Via.refl e6 fc12 10 #[rv a1, rv a2, uu, uu, uu, uu, uu, uu] [vi1, (.ref b3), (.ref b3)] (hb hy d17_10)
  have fc16 := (pr4.ext E3)
  obtain ⟨cl17, Ar17, -, Sz17, Nn17, -, -⟩ := id fc16
  obtain ⟨_, T18, L18, X18, hQ18, st18⟩ := own_cN X13 hx hZ ho hml (cw27 hw) (rm18_0 l Z a0 hw b3 h3 n0 OL3 A3 F_lows_b3 g_b3 F_highs_b3 F_count_b3) e13 b3 15 #[rv a1, rv a2, uu, uu, uu, uu, uu, uu] [(.int o2)] [(.ref b3)] 1 rfl (hb hy d17_15) (by decide)
  obtain ⟨b18_0, b18_1, kx18_0, kx18_1, rfl, Nq18, K18, u18_0, u18_1, u18_2, u18_3, u18_4, u18_5, u18_6, u18_7, u18_8, u18_9⟩ := hQ18
  have KK18 : Keep h0 T18.heap [] := KK3.trans K18 (allS (Or.inr sz_b3) all0)
  have OL18 := OL3.keep K18 (allS g_b3 all0)
  have N18 := Fr.app N0 Nq18
  have nz19 := nl pr1.lt sz_b3
  have fc20 := (fc5.keep K18 (ninS nz19 nin0))
  obtain ⟨T21, X21, e21, st21⟩ := gF X18 hx hZ ho (wd41 hw) Via.refl rfl fc20 27 #[rv a1, rv a2, rv b3, iv o0, iv o0, uu, uu, uu] [vi0] (hb hy d17_27)
  have nz22 := nl pr2.lt sz_b3
  have fc23 := (fc9.keep K18 (ninS nz22 nin0))
  obtain ⟨cl24, Ar24, -, Sz24, Nn24, -, -⟩ := id fc23
  obtain ⟨T25, X25, e25, st25⟩ := gF X21 hx hZ ho (wd41 hw) Via.refl e21 fc20 35 #[rv a1, rv a2, rv b3, iv o0, iv o0, uu, uu, uu] [] (hb hy d17_35)
  have nz27 := nl pr3.lt sz_b3
  have fc28 := (fc12.keep K18 (ninS nz27 nin0))
  obtain ⟨T29, X29, e29, st29⟩ := gF X25 hx hZ ho (wd41 hw) Via.refl e25 fc28 45 #[rv a1, rv a2, rv b3, iv o0, iv o0, jv q7, sc, uu] [vi0] (hb hy d17_45)
  have nz30 := nl pr4.lt sz_b3
  have fc31 := (fc16.keep K18 (ninS nz30 nin0))
  obtain ⟨cl32, Ar32, -, Sz32, Nn32, -, -⟩ := id fc31
  have fc34 := ((pr5.ext E3).keep K18 (ninS nz27 nin0))
  obtain ⟨T35, X35, e35, st35⟩ := gF X29 hx hZ ho (wd43 hw) Via.refl e29 fc34 53 #[rv a1, rv a2, rv b3, iv o0, iv o0, jv q7, sc, uu] [] (hb hy d17_53)
  have nz38 := nl pr6.lt sz_b3
  have fc39 := ((pr6.ext E3).keep K18 (ninS nz38 nin0))
  obtain ⟨T41, X41, e41, st41⟩ := gF X35 hx hZ ho (wd41 hw) Via.refl e35 fc28 76 #[rv a1, rv a2, rv b3, iv o0, iv o0, jv q7, sc, iv o0] [vi0] (hb hy d17_76)
  obtain ⟨cl42, Ar42, -, Sz42, Nn42, -, -⟩ := id fc31
  obtain ⟨T43, X43, e43, st43⟩ := gF X41 hx hZ ho (wd41 hw) Via.refl e41 fc28 84 #[rv a1, rv a2, rv b3, iv o0, iv o0, jv q7, sc, iv o0] [] (hb hy d17_84)
  have fc46 := ((pr8.ext E3).keep K18 (ninS nz19 nin0))
  obtain ⟨T47, X47, e47, st47⟩ := gF X43 hx hZ ho (wd43 hw) Via.refl e43 fc46 91 #[rv a1, rv a2, rv b3, iv o0, iv o0, jv q7, sc, iv o0] [(.long q14)] (hb hy d17_91)
  have nz50 := nl pr9.lt sz_b3
  have fc51 := ((pr9.ext E3).keep K18 (ninS nz50 nin0))
  obtain ⟨T53, X53, e53, st53⟩ := gF X47 hx hZ ho (wd43 hw) Via.refl e47 fc46 104 #[rv a1, rv a2, rv b3, iv o0, iv o0, jv q7, sc, iv o0] [(.long q7)] (hb hy d17_104)
  obtain ⟨T55, X55, e55, st55⟩ := gF X53 hx hZ ho (wd41 hw) Via.refl e53 fc28 118 #[rv a1, rv a2, rv b3, iv o0, iv o0, jv q7, sc, iv o0] [(.long q7), (.ref b3)] (hb hy d17_118)
  have fc58 := (A3.keep K18)
  obtain ⟨_, T57, L57, X57, hQ57, st57⟩ := own_cV X55 hx hZ ho hml (cw28 hw) (rm19_1 l Z a0 hw b3 q7 (q14 - (1 : Int64)) T18.heap n0 OL18 pr12) e55 fc58 126 #[rv a1, rv a2, rv b3, iv o0, iv o0, jv q7, sc, iv o0] [(.long q7), (.long (q14 - (1 : Int64)))] [] 0 rfl (hb hy d17_126) (by decide)
  obtain ⟨rfl, Nq57, ec57⟩ := hQ57
  have N57 := Fr.app N18 Nq57
  obtain ⟨T59, X59, e59, st59⟩ := gF X57 hx hZ ho (wd43 hw) Via.refl ec57 fc34 130 #[rv a1, rv a2, rv b3, iv o0, iv o0, jv q7, sc, iv o0] [] (hb hy d17_130)
  obtain ⟨T61, X61, e61, st61⟩ := gF X59 hx hZ ho (wd41 hw) Via.refl e59 fc28 76 #[rv a1, rv a2, rv b3, iv o0, iv o0, .val (.long (q36 + (1 : Int64))), sc, iv o1] [vi1] (hb hy d17_76)
  obtain ⟨cl62, Ar62, -, Sz62, Nn62, -, -⟩ := id fc31
  obtain ⟨T63, X63, e63, st63⟩ := gF X61 hx hZ ho (wd43 hw) Via.refl e61 fc46 150 #[rv a1, rv a2, rv b3, iv o0, iv o0, .val (.long (q36 + (1 : Int64))), sc, iv o1] [(.long (q36 + (1 : Int64))), (.ref b3)] (hb hy d17_150)
  obtain ⟨_, T65, L65, X65, hQ65, st65⟩ := own_cV X63 hx hZ ho hml (cw28 hw) (rm19_1 l Z a0 hw b3 (q36 + (1 : Int64)) q48 T18.heap n0 OL18 pr13) e63 fc58 156 #[rv a1, rv a2, rv b3, iv o0, iv o0, .val (.long (q36 + (1 : Int64))), sc, iv o1] [(.long (q36 + (1 : Int64))), (.long q48)] [] 0 rfl (hb hy d17_156) (by decide)
  obtain ⟨rfl, Nq65, ec65⟩ := hQ65
  have N65 := Fr.app N57 Nq65
  obtain ⟨T66, X66, e66, st66⟩ := gF X65 hx hZ ho (wd41 hw) Via.refl ec65 fc20 27 #[rv a1, rv a2, rv b3, iv o0, iv o1, .val (.long (q36 + (1 : Int64))), sc, iv o1] [vi1] (hb hy d17_27)
  obtain ⟨cl67, Ar67, -, Sz67, Nn67, -, -⟩ := id fc23
  obtain ⟨_, T69, L69, X69, hQ69, st69⟩ := own_cV X66 hx hZ ho hml (cw35 hw) (rm20_1 l Z a0 hw b3 w68 T18.heap n0 OL18 u18_5 pr14) e66 fc58 166 #[rv a1, rv a2, rv b3, iv o0, iv o1, .val (.long (q36 + (1 : Int64))), sc, iv o1] [] [] 0 rfl (hb hy d17_166) (by decide)
  obtain ⟨rfl, Nq69, ec69⟩ := hQ69
  have N69 := Fr.app N65 Nq69
  refine ⟨some (.ref w68), _, _, _, _, _, X69, ec69, by decide, nofun, fun fs hr => ?_, ?_⟩
  · refine st3 _ ?_
    refine XS.dup X3.here hx rfl (hb hy d17_3) rfl rfl ?_
    refine xaloadN X3 hx hy d17_4 rfl rfl ?_
    refine st6 _ ?_
    refine X6.arraylength hx (by rw [e6]; exact Ar10.1) (State.isArrayOf_alike hZ.alike Ar10.2.1) (g := (mkF m 8 #[rv a1, rv a2, uu, uu, uu, uu, uu, uu] [(.ref a4), (.ref b3), (.ref b3)])) rfl rfl (hb hy d17_8) _ ?_
    rw [len_of Sz10 Nn10]
    refine xaloadN X6 hx hy d17_9 rfl rfl ?_
    refine st13 _ ?_
    refine X13.arraylength hx (by rw [e13]; exact Ar17.1) (State.isArrayOf_alike hZ.alike Ar17.2.1) (g := (mkF m 13 #[rv a1, rv a2, uu, uu, uu, uu, uu, uu] [(.ref a11), vi1, (.ref b3), (.ref b3)])) rfl rfl (hb hy d17_13) _ ?_
    rw [len_of Sz17 Nn17]
    refine XS.iadd X13.here hx rfl (hb hy d17_14) rfl ?_
    refine st18 _ ?_
    refine XS.astoreN X18.here hx rfl (hb hy d17_18) rfl rfl (l' := #[rv a1, rv a2, rv b3, uu, uu, uu, uu, uu]) rfl ?_
    refine XS.iconst X18.here hx rfl (hb hy d17_19) ?_
    refine XS.istoreN X18.here hx rfl (hb hy d17_20) rfl (l' := #[rv a1, rv a2, rv b3, iv o0, uu, uu, uu, uu]) rfl ?_
    refine XS.iconst X18.here hx rfl (hb hy d17_21) ?_
    refine XS.istore X18.here hx rfl (hb hy d17_22) rfl (l' := #[rv a1, rv a2, rv b3, iv o0, iv o0, uu, uu, uu]) rfl ?_
    refine xiload X18 hx hy d17_24 rfl ?_
    refine xaloadN X18 hx hy d17_26 rfl rfl ?_
    refine st21 _ ?_
    refine X21.arraylength hx (by rw [e21]; exact Ar24.1) (State.isArrayOf_alike hZ.alike Ar24.2.1) (g := (mkF m 30 #[rv a1, rv a2, rv b3, iv o0, iv o0, uu, uu, uu] [(.ref a4), vi0])) rfl rfl (hb hy d17_30) _ ?_
    rw [len_of Sz24 Nn24]
    refine XS.icmpNo X21.here hx rfl (hb hy d17_31) rfl (tlt (by decide : o0 < o1)).2.1 ?_
    refine xaloadN X21 hx hy d17_34 rfl rfl ?_
    refine st25 _ ?_
    refine xiload X25 hx hy d17_38 rfl ?_
    refine own_laJ X25 hx hZ e25 fc23 (v := (.long q7)) (by decide) rfl (hb hy d17_40) ?_
    refine XS.lstore X25.here hx rfl (hb hy d17_41) rfl (l' := #[rv a1, rv a2, rv b3, iv o0, iv o0, jv q7, sc, uu]) rfl ?_
    refine xiloadN X25 hx hy d17_43 rfl ?_
    refine xaloadN X25 hx hy d17_44 rfl rfl ?_
    refine st29 _ ?_
    refine X29.arraylength hx (by rw [e29]; exact Ar32.1) (State.isArrayOf_alike hZ.alike Ar32.2.1) (g := (mkF m 48 #[rv a1, rv a2, rv b3, iv o0, iv o0, jv q7, sc, uu] [(.ref a11), vi0])) rfl rfl (hb hy d17_48) _ ?_
    rw [len_of Sz32 Nn32]
    refine XS.icmpNo X29.here hx rfl (hb hy d17_49) rfl (tlt (by decide : o0 < o1)).2.1 ?_
    refine xaloadN X29 hx hy d17_52 rfl rfl ?_
    refine st35 _ ?_
    refine xiloadN X35 hx hy d17_56 rfl ?_
    refine own_laJ X35 hx hZ e35 fc39 (v := (.long q36)) (by decide) rfl (hb hy d17_57) ?_
    refine xlload X35 hx hy d17_58 rfl ?_
    refine XS.lcmp X35.here hx rfl (hb hy d17_60) rfl ?_
    refine XS.ifYes X35.here hx rfl (pc0 := 61) (pc' := 70) rfl (hb hy d17_61) rfl ((if0 _ _).trans (flt ((fun z => pr7 ((lw_lt q36 q7).mp z)) : ¬ ((lcmpW q36 q7) < o0))).2.1) (by decide) (by decide) ?_
    refine xiloadN X35 hx hy d17_70 rfl ?_
    refine XS.istore X35.here hx rfl (hb hy d17_71) rfl (l' := #[rv a1, rv a2, rv b3, iv o0, iv o0, jv q7, sc, iv o0]) rfl ?_
    refine xiload X35 hx hy d17_73 rfl ?_
    refine xaloadN X35 hx hy d17_75 rfl rfl ?_
    refine st41 _ ?_
    refine X41.arraylength hx (by rw [e41]; exact Ar42.1) (State.isArrayOf_alike hZ.alike Ar42.2.1) (g := (mkF m 79 #[rv a1, rv a2, rv b3, iv o0, iv o0, jv q7, sc, iv o0] [(.ref a11), vi0])) rfl rfl (hb hy d17_79) _ ?_
    rw [len_of Sz42 Nn42]
    refine XS.icmpNo X41.here hx rfl (hb hy d17_80) rfl (tlt (by decide : o0 < o1)).2.1 ?_
    refine xaloadN X41 hx hy d17_83 rfl rfl ?_
    refine st43 _ ?_
    refine xiload X43 hx hy d17_87 rfl ?_
    refine own_laJ X43 hx hZ e43 fc31 (v := (.long q14)) (by decide) rfl (hb hy d17_89) ?_
    refine xaloadN X43 hx hy d17_90 rfl rfl ?_
    refine st47 _ ?_
    refine xiload X47 hx hy d17_94 rfl ?_
    show SS p e below T47 m 96 #[rv a1, rv a2, rv b3, iv o0, iv o0, jv q7, sc, iv o0] [vi0, (.ref a45), (.long q14)] _
    refine own_laJ X47 hx hZ e47 fc51 (v := (.long q48)) (by decide) rfl (hb hy d17_96) ?_
    refine XS.lcmp X47.here hx rfl (hb hy d17_97) rfl ?_
    refine XS.ifNo X47.here hx rfl (hb hy d17_98) rfl ((if0 _ _).trans (flt ((fun z => pr10 ((lw_gt q14 q48).mp z)) : ¬ (o0 < (lcmpW q14 q48)))).2.2.1) ?_
    refine xlload X47 hx hy d17_101 rfl ?_
    refine xaloadN X47 hx hy d17_103 rfl rfl ?_
    refine st53 _ ?_
    refine xiload X53 hx hy d17_107 rfl ?_
    refine own_laJ X53 hx hZ e53 fc51 (v := (.long q48)) (by decide) rfl (hb hy d17_109) ?_
    refine XS.lcmp X53.here hx rfl (hb hy d17_110) rfl ?_
    refine XS.ifNo X53.here hx rfl (hb hy d17_111) rfl ((if0 _ _).trans (flt ((fun z => pr11 ((lw_gt q7 q48).mp z)) : ¬ (o0 < (lcmpW q7 q48)))).2.2.1) ?_
    refine xaloadN X53 hx hy d17_114 rfl rfl ?_
    refine xlload X53 hx hy d17_115 rfl ?_
    refine xaloadN X53 hx hy d17_117 rfl rfl ?_
    refine st55 _ ?_
    refine xiload X55 hx hy d17_121 rfl ?_
    refine own_laJ X55 hx hZ e55 fc31 (v := (.long q14)) (by decide) rfl (hb hy d17_123) ?_
    refine XS.lconst X55.here hx rfl (hb hy d17_124) ?_
    refine XS.lsub X55.here hx rfl (hb hy d17_125) rfl ?_
    refine st57 _ ?_
    refine xaloadN X57 hx hy d17_129 rfl rfl ?_
    refine st59 _ ?_
    refine xiload X59 hx hy d17_133 rfl ?_
    refine own_laJ X59 hx hZ e59 fc39 (v := (.long q36)) (by decide) rfl (hb hy d17_135) ?_
    refine XS.lconst X59.here hx rfl (hb hy d17_136) ?_
    refine XS.ladd X59.here hx rfl (hb hy d17_137) rfl ?_
    refine XS.lstore X59.here hx rfl (hb hy d17_138) rfl (l' := #[rv a1, rv a2, rv b3, iv o0, iv o0, .val (.long (q36 + (1 : Int64))), sc, iv o0]) rfl ?_
    refine XS.iinc X59.here hx rfl (hb hy d17_140) rfl (l' := #[rv a1, rv a2, rv b3, iv o0, iv o0, .val (.long (q36 + (1 : Int64))), sc, .val (.int (o0 + o1))]) rfl ?_
    refine XS.goto X59.here hx rfl (pc0 := 143) (pc' := 73) rfl (hb hy d17_143) (by decide) (by decide) ?_
    refine xiload X59 hx hy d17_73 rfl ?_
    refine xaloadN X59 hx hy d17_75 rfl rfl ?_
    refine st61 _ ?_
    refine X61.arraylength hx (by rw [e61]; exact Ar62.1) (State.isArrayOf_alike hZ.alike Ar62.2.1) (g := (mkF m 79 #[rv a1, rv a2, rv b3, iv o0, iv o0, .val (.long (q36 + (1 : Int64))), sc, iv o1] [(.ref a11), vi1])) rfl rfl (hb hy d17_79) _ ?_
    rw [len_of Sz62 Nn62]
    refine XS.icmpYes X61.here hx rfl (pc0 := 80) (pc' := 146) rfl (hb hy d17_80) rfl (flt (by decide : ¬ (o1 < o1))).2.1 (by decide) (by decide) ?_
    refine xaloadN X61 hx hy d17_146 rfl rfl ?_
    refine xlload X61 hx hy d17_147 rfl ?_
    refine xaloadN X61 hx hy d17_149 rfl rfl ?_
    refine st63 _ ?_
    refine xiload X63 hx hy d17_153 rfl ?_
    refine own_laJ X63 hx hZ e63 fc51 (v := (.long q48)) (by decide) rfl (hb hy d17_155) ?_
    refine st65 _ ?_
    refine XS.iinc X65.here hx rfl (hb hy d17_159) rfl (l' := #[rv a1, rv a2, rv b3, iv o0, .val (.int (o0 + o1)), .val (.long (q36 + (1 : Int64))), sc, iv o1]) rfl ?_
    refine XS.goto X65.here hx rfl (pc0 := 162) (pc' := 24) rfl (hb hy d17_162) (by decide) (by decide) ?_
    refine xiload X65 hx hy d17_24 rfl ?_
    refine xaloadN X65 hx hy d17_26 rfl rfl ?_
    refine st66 _ ?_
    refine X66.arraylength hx (by rw [e66]; exact Ar67.1) (State.isArrayOf_alike hZ.alike Ar67.2.1) (g := (mkF m 30 #[rv a1, rv a2, rv b3, iv o0, iv o1, .val (.long (q36 + (1 : Int64))), sc, iv o1] [(.ref a4), vi1])) rfl rfl (hb hy d17_30) _ ?_
    rw [len_of Sz67 Nn67]
    refine XS.icmpYes X66.here hx rfl (pc0 := 31) (pc' := 165) rfl (hb hy d17_31) rfl (flt (by decide : ¬ (o1 < o1))).2.1 (by decide) (by decide) ?_
    refine xaloadN X66 hx hy d17_165 rfl rfl ?_
    refine st69 _ ?_
    show SS p e below T69 m 169 #[rv a1, rv a2, rv b3, iv o0, iv o1, .val (.long (q36 + (1 : Int64))), sc, iv o1] [(.ref w68)] _
    exact own_retR X69 hx hret rfl rfl rfl (hb hy d17_169) hr
  · exact ⟨rfl, N69, KK18⟩
theorem rm14_1 (l : Launch) (Z : State) (a0 : Array Value) (hw : HW a0 Z) (a1 : Addr) (p2 : Int32) (a3 w4 w6 w7 : Addr) (k8 : ClassId) (q11 : Int64) (a13 : Addr) (q14 : Int64) (k15 : ClassId) (a16 : Addr) (q17 : Int64) (k18 : ClassId) (w19 : Addr) (p25 : Int32) (a33 a36 a38 : Addr) (p40 : Int32) (h0 : Heap) (n0 : Nat) (OL0 : Old Z n0 h0) (pr1 : Sta Z Z.heap s45 s2 s5 (.ref w4)) (pr2 : Fld Z Z.heap w4 s29 s13 s7 (.ref w6)) (pr3 : Asl Z Z.heap w6 k8 (.object s20) o12 p2 (.ref w7)) (pr4 : Exa Z Z.heap w4 s29) (pr5 : Exa Z Z.heap w7 s42) (pr6 : Fld Z Z.heap w7 s42 "low" "J" lj0) (pr7 : Fld Z Z.heap w7 s42 "high" "J" (.long q11)) (pr8 : ¬ (q11 < oj0)) (pr9 : ¬ ((281474976710656 : Int64) < q11)) (pr10 : Fld Z h0 a3 s43 "lows" "[J" (.ref a13)) (pr11 : Arv Z h0 a13 k15 .long o1 [(.long q14)] lj0) (pr12 : Fld Z h0 a3 s43 "highs" "[J" (.ref a16)) (pr13 : Arv Z h0 a16 k18 .long o1 [(.long q17)] lj0) (pr14 : ¬ (q17 < oj0)) (pr15 : ¬ (q11 < q14)) (pr16 : (q14 - (1 : Int64)) < oj0) (pr17 : q11 < (q17 + (1 : Int64))) (pr18 : Sta Z Z.heap s32 "EMPTY" s6 (.ref w19)) (pr19 : Fld Z h0 a1 s45 s15 "Z" (.int p25)) (pr20 : Fld Z Z.heap w19 s32 "value" s3 .null) (pr21 : Exa Z Z.heap w19 s32) (pr22 : Exa Z h0 a1 s45) (pr23 : n0 ≤ a1) (pr24 : Fld Z h0 a1 s45 s11 s5 (.ref a33)) (pr25 : Fld Z h0 a1 s45 s16 s5 (.ref a36)) (pr26 : Fld Z h0 a1 s45 "sets" s8 (.ref a38)) (pr27 : Fld Z h0 a1 s45 s48 "Z" (.int p40)) :
    MF l Z mn14 prog_66_method_6_code 4 none ⟨4, 7, 13, 3075⟩ #[(.ref a1), (.int p2), (.ref a3)] h0 (fun v h L => v = none ∧ Fr n0 L ∧ Keep h0 h [a1] ∧ Fld Z h a1 s45 s15 "Z" (.int (nar .boolean (p25 ||| o1))) ∧ Fld Z h a1 s45 s11 s5 (.ref a33) ∧ Fld Z h a1 s45 s16 s5 (.ref a36) ∧ Fld Z h a1 s45 "sets" s8 (.ref a38) ∧ Fld Z h a1 s45 s48 "Z" (.int p40)) := by
  refine own_startN (plainFor_of_name pn_7) (fun m => (ef_14_39 m a1 p2 a3)) ?_
  intro p e s m below meth c s₁ hZ hx hy hml ho hnm hnamed hret X0 e0
  have N0 := Fr.nil n0
  obtain ⟨T5, X5, e5, st5⟩ := getS2 X0 hx hZ ho (host := "") (Or.inl (wd52 hw)) Via.refl e0 (pr1.ext OL0.2) (g := (mkF m 0 #[rv a1, iv p2, rv a3, uu] [])) rfl (hb hy d14_0)
  obtain ⟨_, T9, L9, X9, hQ9, st9⟩ := own_cI X5 hx hZ ho hml (cw24 hw) (rm15_0 l Z a0 hw w4 p2 w6 w7 k8 h0 n0 OL0 pr2 pr3) e5 (pr4.ext OL0.2) 4 #[rv a1, iv p2, rv a3, uu] [(.int p2)] [] 0 rfl (hb hy d14_4) (by decide)
  obtain ⟨rfl, Nq9, ec9⟩ := hQ9
  have N9 := Fr.app N0 Nq9
  obtain ⟨T10, X10, e10, st10⟩ := castY X9 hx hZ ho (wd118 hw) ec9 (Ins.self (pr5.ext OL0.2)) (g := (mkF m 9 #[rv a1, iv p2, rv a3, uu] [(.ref w7)])) rfl rfl (hb hy d14_9)
  obtain ⟨_, T12, L12, X12, hQ12, st12⟩ := own_cV X10 hx hZ ho hml (cw26 hw) (rm16_0 l Z a0 hw w7 q11 h0 n0 OL0 pr6 pr7 pr8 pr9) e10 (pr5.ext OL0.2) 12 #[rv a1, iv p2, rv a3, uu] [] [] 0 rfl (hb hy d14_12) (by decide)
  obtain ⟨b12_0, b12_1, b12_2, kx12_0, kx12_1, rfl, Nq12, K12, u12_0, u12_1, u12_2, u12_3, u12_4, u12_5, u12_6, u12_7, u12_8, u12_9, u12_10, u12_11, u12_12⟩ := hQ12
  have KK12 : Keep h0 T12.heap [a1] := (Keep.refl h0 [a1]).trans K12 all0
  have OL12 := OL0.keep K12 all0
  have N12 := Fr.app N9 Nq12
  have fc21 := (pr10.keep K12 nin0)
  have fc22 := (pr11.keep K12 nin0)
  have fc23 := (pr12.keep K12 nin0)
  have fc24 := (pr13.keep K12 nin0)
  obtain ⟨_, T20, L20, X20, hQ20, st20⟩ := own_cV X12 hx hZ ho hml (cw36 hw) (rm17_1 l Z a0 hw b12_0 a3 b12_1 oj0 kx12_0 a13 q14 k15 a16 q17 k18 b12_2 q11 kx12_1 w19 T12.heap n0 OL12 u12_7 u12_9 fc21 fc22 fc23 fc24 pr14 u12_8 u12_11 pr15 pr8 pr16 pr17 pr18) rfl u12_6 16 #[rv a1, iv p2, rv a3, uu] [(.ref a3)] [] 0 rfl (hb hy d14_16) (by decide)
  obtain ⟨rfl, Nq20, K20⟩ := hQ20
  have KK20 : Keep h0 T20.heap [a1] := KK12.trans K20 all0
  have OL20 := OL12.keep K20 all0
  have N20 := Fr.app N12 Nq20
  have fc26 := ((pr19.keep K12 nin0).keep K20 nin0)
  obtain ⟨T27, X27, e27, st27⟩ := gF X20 hx hZ ho (wd190 hw) Via.refl rfl fc26 22 #[rv a1, iv p2, rv a3, rv w19] [(.ref a1)] (hb hy d14_22)
  obtain ⟨_, T28, L28, X28, hQ28, st28⟩ := own_cV X27 hx hZ ho hml (cw37 hw) (rm26_1 l Z a0 hw w19 T20.heap n0 OL20 pr20) e27 (pr21.ext OL20.2) 26 #[rv a1, iv p2, rv a3, rv w19] [] [(.int p25), (.ref a1)] 2 rfl (hb hy d14_26) (by decide)
  obtain ⟨rfl, Nq28, ec28⟩ := hQ28
  have N28 := Fr.app N20 Nq28
  have fc29 := ((pr22.keep K12).keep K20)
  obtain ⟨T30, h30, X30, e30, W30, st30⟩ := putFN X28 hx hZ ho (wd190 hw) Via.refl ec28 fc26 fc29 (Or.inl (wd191 hw)) (wd46 hw) (ty := .boolean) (v' := (.int (nar .boolean (p25 ||| o1)))) (by decide) rfl (fits_nar_bool _) (g := (mkF m 30 #[rv a1, iv p2, rv a3, rv w19] [(.int (p25 ||| o1)), (.ref a1)])) rfl rfl (hb hy d14_30)
  have Fw30 := fc26.same W30
  have KK30 : Keep h0 h30 [a1] := KK20.wr W30 (Or.inl (List.mem_of_getElem? (i := 0) rfl))
  have OL30 := OL20.wr W30 pr23
  have N30 := Fr.snoc X30 N28 pr23
  obtain ⟨T31, h31, X31, e31, E31, LM31, st31⟩ := own_mk X30 hx hZ hml hnamed (wd197 hw) (wd200 hw) own_lok1 rfl rfl e30 a1 p2 #[rv a1, iv p2, rv a3, rv w19] [(.ref w19)] rfl (hb hy d14_36) (by decide) (by decide) (W := 1) rfl (by decide)
  obtain ⟨b31, g31⟩ : ∃ z, z = h30.size := ⟨_, rfl⟩
  rw [← g31] at LM31 st31
  have KK31 : Keep h0 h31 [a1] := KK30.ext E31
  have OL31 := OL30.ext E31
  obtain ⟨_, T32, L32, X32, hQ32, st32⟩ := own_cV X31 hx hZ ho hml (cw39 hw) (rm27_1 l Z a0 hw w19 b31 h31 n0 OL31 pr20) e31 (pr21.ext OL31.2) 41 #[rv a1, iv p2, rv a3, rv w19] [(.ref b31)] [] 0 rfl (hb hy d14_41) (by decide)
  obtain ⟨rfl, Nq32, ec32⟩ := hQ32
  have N32 := Fr.app N30 Nq32
  have fc34 := ((((pr24.keep K12 nin0).keep K20 nin0).other W30 (Or.inr (slot_ne (Or.inr (wd97 hw)) (Or.inl (wd191 hw)) (by decide) (t := (.object s30)) (t' := .boolean) (by decide) (by decide)))).ext E31)
  have fc35 := (Fw30.ext E31)
  have fc37 := ((((pr25.keep K12 nin0).keep K20 nin0).other W30 (Or.inr (slot_ne (Or.inr (wd95 hw)) (Or.inl (wd191 hw)) (by decide) (t := (.object s30)) (t' := .boolean) (by decide) (by decide)))).ext E31)
  have fc39 := ((((pr26.keep K12 nin0).keep K20 nin0).other W30 (Or.inr (slot_ne (Or.inr (wd69 hw)) (Or.inl (wd191 hw)) (by decide) (t := (.array tV)) (t' := .boolean) (by decide) (by decide)))).ext E31)
  have fc41 := ((((pr27.keep K12 nin0).keep K20 nin0).other W30 (Or.inr (slot_ne (Or.inl (wd104 hw)) (Or.inl (wd191 hw)) (by decide) (t := .boolean) (t' := .boolean) (by decide) (by decide)))).ext E31)
  refine ⟨none, _, _, _, _, _, X32, ec32, by decide, fun _ => rfl, fun fs hr => ?_, ?_⟩
  · refine st5 _ ?_
    refine xiloadN X5 hx hy d14_3 rfl ?_
    refine st9 _ ?_
    refine st10 _ ?_
    refine st12 _ ?_
    refine xaloadN X12 hx hy d14_15 rfl rfl ?_
    refine st20 _ ?_
    refine XS.astoreN X20.here hx rfl (hb hy d14_19) rfl rfl (l' := #[rv a1, iv p2, rv a3, rv w19]) rfl ?_
    refine xaloadN X20 hx hy d14_20 rfl rfl ?_
    refine XS.dup X20.here hx rfl (hb hy d14_21) rfl rfl ?_
    refine st27 _ ?_
    refine xaloadN X27 hx hy d14_25 rfl rfl ?_
    refine st28 _ ?_
    refine XS.ior X28.here hx rfl (hb hy d14_29) rfl ?_
    refine st30 _ ?_
    refine xaloadN X30 hx hy d14_33 rfl rfl ?_
    refine xaloadN X30 hx hy d14_34 rfl rfl ?_
    refine xiloadN X30 hx hy d14_35 rfl ?_
    refine st31 _ ?_
    refine st32 _ ?_
    show SS p e below T32 m 44 #[rv a1, iv p2, rv a3, rv w19] [] _
    exact X32.returnOut hx hret (hb hy d14_44) hr
  · exact ⟨rfl, N32, KK31, fc35, fc34, fc37, fc39, fc41⟩
theorem rm17_2 (l : Launch) (Z : State) (a0 : Array Value) (hw : HW a0 Z) (a1 a2 a4 : Addr) (q7 : Int64) (k8 : ClassId) (a11 : Addr) (q14 : Int64) (k15 : ClassId) (a33 : Addr) (q36 : Int64) (k37 : ClassId) (a45 : Addr) (q48 : Int64) (k49 : ClassId) (h0 : Heap) (n0 : Nat) (OL0 : Old Z n0 h0) (pr1 : Fld Z h0 a1 s43 "lows" "[J" (.ref a4)) (pr2 : Arv Z h0 a4 k8 .long o1 [(.long q7)] lj0) (pr3 : Fld Z h0 a2 s43 "lows" "[J" (.ref a11)) (pr4 : Arv Z h0 a11 k15 .long o1 [(.long q14)] lj0) (pr5 : Fld Z h0 a2 s43 "highs" "[J" (.ref a33)) (pr6 : Arv Z h0 a33 k37 .long o1 [(.long q36)] lj0) (pr7 : ¬ (q36 < q7)) (pr8 : Fld Z h0 a1 s43 "highs" "[J" (.ref a45)) (pr9 : Arv Z h0 a45 k49 .long o1 [(.long q48)] lj0) (pr10 : ¬ (q48 < q14)) (pr11 : ¬ (q48 < q7)) (pr12 : (q14 - (1 : Int64)) < q7) (pr13 : ¬ (q48 < (q36 + (1 : Int64)))) :
    MF l Z mn17 prog_63_method_5_code 8 (some (.object s32)) ⟨4, 7, 12, 50⟩ #[(.ref a1), (.ref a2)] h0 (fun v h L => ∃ b76_0 b76_1 b76_2 b76_3 : Addr, ∃ kx76_0 : ClassId, ∃ kx76_1 : ClassId, v = some (.ref b76_0) ∧ Fr n0 L ∧ Keep h0 h [] ∧ h0.size ≤ b76_0 ∧ h0.size ≤ b76_1 ∧ h0.size ≤ b76_2 ∧ h0.size ≤ b76_3 ∧ b76_0 ≠ b76_1 ∧ b76_0 ≠ b76_2 ∧ b76_0 ≠ b76_3 ∧ b76_1 ≠ b76_2 ∧ b76_1 ≠ b76_3 ∧ b76_2 ≠ b76_3 ∧ Exa Z h b76_0 s32 ∧ Fld Z h b76_0 s32 "value" s3 (.ref b76_1) ∧ Exa Z h b76_1 s43 ∧ Fld Z h b76_1 s43 "lows" "[J" (.ref b76_2) ∧ Fld Z h b76_1 s43 "highs" "[J" (.ref b76_3) ∧ Arv Z h b76_2 kx76_0 .long o1 [(.long (q36 + (1 : Int64)))] lj0 ∧ Exa Z h b76_2 "[J" ∧ Arv Z h b76_3 kx76_1 .long o1 [(.long q48)] lj0 ∧ Exa Z h b76_3 "[J") := by
  refine own_start (plainFor_of_name pn_2) (fun m => (ef_17_35 m a1 a2)) ?_
  intro p e s m below meth c s₁ hZ hx hy hml ho hnm hret X0 e0
  have N0 := Fr.nil n0
  obtain ⟨T3, h3, X3, e3, E3, A3, D3, -, st3⟩ := newO X0 hx hZ ho (wd136 hw) (wd137 hw) (wd138 hw) e0 (g := (mkF m 0 #[rv a1, rv a2, uu, uu, uu, uu, uu, uu] [])) rfl (hb hy d17_0) (by decide) (by decide)
  obtain ⟨b3, g3⟩ : ∃ z, z = h0.size := ⟨_, rfl⟩
  rw [← g3] at A3 D3 st3
  have g_b3 : n0 ≤ b3 := (Nat.le_trans (Nat.le_trans (Nat.le_of_eq OL0.1.symm) OL0.2.1) (Nat.le_of_eq g3.symm))
  have sz_b3 : h0.size ≤ b3 := (Nat.le_trans (Keep.refl h0 []).1 (Nat.le_of_eq g3.symm))
  have KK3 : Keep h0 h3 [] := (Keep.refl h0 []).ext E3
  have OL3 := OL0.ext E3
  have F_lows_b3 : Fld Z h3 b3 s44 "lows" "[J" .null := D3 (Or.inr (wd144 hw)) (ty := (.array .long)) (by decide)
  have F_highs_b3 : Fld Z h3 b3 s44 "highs" "[J" .null := D3 (Or.inr (wd146 hw)) (ty := (.array .long)) (by decide)
  have F_count_b3 : Fld Z h3 b3 s44 "count" "I" vi0 := D3 (Or.inl (wd153 hw)) (ty := .int) (by decide)
  have fc5 := (pr1.ext E3)
  obtain ⟨T6, X6, e6, st6⟩ := gF X3 hx hZ ho (wd41 hw) Via.refl e3 fc5 5 #[rv a1, rv a2, uu, uu, uu, uu, uu, uu] [(.ref b3), (.ref b3)] (hb hy d17_5)
  have fc9 := (pr2.ext E3)
  obtain ⟨cl10, Ar10, -, Sz10, Nn10, -, -⟩ := id fc9
  have fc12 := (pr3.ext E3)
  obtain ⟨T13, X13, e13, st13⟩ := gF X6 hx hZ ho (wd41 hw) Via.refl e6 fc12 10 #[rv a1, rv a2, uu, uu, uu, uu, uu, uu] [vi1, (.ref b3), (.ref b3)] (hb hy d17_10)
  have fc16 := (pr4.ext E3)
  obtain ⟨cl17, Ar17, -, Sz17, Nn17, -, -⟩ := id fc16
  obtain ⟨_, T18, L18, X18, hQ18, st18⟩ := own_cN X13 hx hZ ho hml (cw27 hw) (rm18_0 l Z a0 hw b3 h3 n0 OL3 A3 F_lows_b3 g_b3 F_highs_b3 F_count_b3) e13 b3 15 #[rv a1, rv a2, uu, uu, uu, uu, uu, uu] [(.int o2)] [(.ref b3)] 1 rfl (hb hy d17_15) (by decide)
  obtain ⟨b18_0, b18_1, kx18_0, kx18_1, rfl, Nq18, K18, u18_0, u18_1, u18_2, u18_3, u18_4, u18_5, u18_6, u18_7, u18_8, u18_9⟩ := hQ18
  have KK18 : Keep h0 T18.heap [] := KK3.trans K18 (allS (Or.inr sz_b3) all0)
  have OL18 := OL3.keep K18 (allS g_b3 all0)
  have g_b18_0 : n0 ≤ b18_0 := Nat.le_trans (Nat.le_trans (Nat.le_of_eq OL3.1.symm) OL3.2.1) u18_0
  have sz_b18_0 : h0.size ≤ b18_0 := Nat.le_trans KK3.1 u18_0
  have g_b18_1 : n0 ≤ b18_1 := Nat.le_trans (Nat.le_trans (Nat.le_of_eq OL3.1.symm) OL3.2.1) u18_1
  have sz_b18_1 : h0.size ≤ b18_1 := Nat.le_trans KK3.1 u18_1
  have N18 := Fr.app N0 Nq18
  have nz19 := nl pr1.lt sz_b3
  have fc20 := (fc5.keep K18 (ninS nz19 nin0))
  obtain ⟨T21, X21, e21, st21⟩ := gF X18 hx hZ ho (wd41 hw) Via.refl rfl fc20 27 #[rv a1, rv a2, rv b3, iv o0, iv o0, uu, uu, uu] [vi0] (hb hy d17_27)
  have nz22 := nl pr2.lt sz_b3
  have fc23 := (fc9.keep K18 (ninS nz22 nin0))
  obtain ⟨cl24, Ar24, -, Sz24, Nn24, -, -⟩ := id fc23
  obtain ⟨T25, X25, e25, st25⟩ := gF X21 hx hZ ho (wd41 hw) Via.refl e21 fc20 35 #[rv a1, rv a2, rv b3, iv o0, iv o0, uu, uu, uu] [] (hb hy d17_35)
  have nz27 := nl pr3.lt sz_b3
  have fc28 := (fc12.keep K18 (ninS nz27 nin0))
  obtain ⟨T29, X29, e29, st29⟩ := gF X25 hx hZ ho (wd41 hw) Via.refl e25 fc28 45 #[rv a1, rv a2, rv b3, iv o0, iv o0, jv q7, sc, uu] [vi0] (hb hy d17_45)
  have nz30 := nl pr4.lt sz_b3
  have fc31 := (fc16.keep K18 (ninS nz30 nin0))
  obtain ⟨cl32, Ar32, -, Sz32, Nn32, -, -⟩ := id fc31
  have fc34 := ((pr5.ext E3).keep K18 (ninS nz27 nin0))
  obtain ⟨T35, X35, e35, st35⟩ := gF X29 hx hZ ho (wd43 hw) Via.refl e29 fc34 53 #[rv a1, rv a2, rv b3, iv o0, iv o0, jv q7, sc, uu] [] (hb hy d17_53)
  have nz38 := nl pr6.lt sz_b3
  have fc39 := ((pr6.ext E3).keep K18 (ninS nz38 nin0))
  obtain ⟨T41, X41, e41, st41⟩ := gF X35 hx hZ ho (wd41 hw) Via.refl e35 fc28 76 #[rv a1, rv a2, rv b3, iv o0, iv o0, jv q7, sc, iv o0] [vi0] (hb hy d17_76)
  obtain ⟨cl42, Ar42, -, Sz42, Nn42, -, -⟩ := id fc31
  obtain ⟨T43, X43, e43, st43⟩ := gF X41 hx hZ ho (wd41 hw) Via.refl e41 fc28 84 #[rv a1, rv a2, rv b3, iv o0, iv o0, jv q7, sc, iv o0] [] (hb hy d17_84)
  have fc46 := ((pr8.ext E3).keep K18 (ninS nz19 nin0))
  obtain ⟨T47, X47, e47, st47⟩ := gF X43 hx hZ ho (wd43 hw) Via.refl e43 fc46 91 #[rv a1, rv a2, rv b3, iv o0, iv o0, jv q7, sc, iv o0] [(.long q14)] (hb hy d17_91)
  have nz50 := nl pr9.lt sz_b3
  have fc51 := ((pr9.ext E3).keep K18 (ninS nz50 nin0))
  obtain ⟨T53, X53, e53, st53⟩ := gF X47 hx hZ ho (wd43 hw) Via.refl e47 fc46 104 #[rv a1, rv a2, rv b3, iv o0, iv o0, jv q7, sc, iv o0] [(.long q7)] (hb hy d17_104)
  obtain ⟨T55, X55, e55, st55⟩ := gF X53 hx hZ ho (wd41 hw) Via.refl e53 fc28 118 #[rv a1, rv a2, rv b3, iv o0, iv o0, jv q7, sc, iv o0] [(.long q7), (.ref b3)] (hb hy d17_118)
  have fc58 := (A3.keep K18)
  obtain ⟨_, T57, L57, X57, hQ57, st57⟩ := own_cV X55 hx hZ ho hml (cw28 hw) (rm19_1 l Z a0 hw b3 q7 (q14 - (1 : Int64)) T18.heap n0 OL18 pr12) e55 fc58 126 #[rv a1, rv a2, rv b3, iv o0, iv o0, jv q7, sc, iv o0] [(.long q7), (.long (q14 - (1 : Int64)))] [] 0 rfl (hb hy d17_126) (by decide)
  obtain ⟨rfl, Nq57, ec57⟩ := hQ57
  have N57 := Fr.app N18 Nq57
  obtain ⟨T59, X59, e59, st59⟩ := gF X57 hx hZ ho (wd43 hw) Via.refl ec57 fc34 130 #[rv a1, rv a2, rv b3, iv o0, iv o0, jv q7, sc, iv o0] [] (hb hy d17_130)
  obtain ⟨T61, X61, e61, st61⟩ := gF X59 hx hZ ho (wd41 hw) Via.refl e59 fc28 76 #[rv a1, rv a2, rv b3, iv o0, iv o0, .val (.long (q36 + (1 : Int64))), sc, iv o1] [vi1] (hb hy d17_76)
  obtain ⟨cl62, Ar62, -, Sz62, Nn62, -, -⟩ := id fc31
  obtain ⟨T63, X63, e63, st63⟩ := gF X61 hx hZ ho (wd43 hw) Via.refl e61 fc46 150 #[rv a1, rv a2, rv b3, iv o0, iv o0, .val (.long (q36 + (1 : Int64))), sc, iv o1] [(.long (q36 + (1 : Int64))), (.ref b3)] (hb hy d17_150)
  have nz66 := nl F_lows_b3.lt u18_0
  have nz67 := nl F_lows_b3.lt u18_1
  obtain ⟨_, T65, L65, X65, hQ65, st65⟩ := own_cV X63 hx hZ ho hml (cw28 hw) (rm19_0 l Z a0 hw b3 (q36 + (1 : Int64)) q48 b18_0 oj0 oj0 kx18_0 b18_1 oj0 oj0 kx18_1 T18.heap n0 OL18 pr13 u18_3 u18_5 u18_6 g_b18_0 u18_4 nz66 u18_8 (Ne.symm u18_2) g_b18_1 nz67 fc58 g_b3 u18_2 (Ne.symm nz66) (Ne.symm nz67)) e63 fc58 156 #[rv a1, rv a2, rv b3, iv o0, iv o0, .val (.long (q36 + (1 : Int64))), sc, iv o1] [(.long (q36 + (1 : Int64))), (.long q48)] [] 0 rfl (hb hy d17_156) (by decide)
  obtain ⟨rfl, Nq65, K65, u65_0, u65_1, u65_2, u65_3, u65_4⟩ := hQ65
  have KK65 : Keep h0 T65.heap [] := KK18.trans K65 (allS (Or.inr sz_b18_0) (allS (Or.inr sz_b18_1) (allS (Or.inr sz_b3) all0)))
  have OL65 := OL18.keep K65 (allS g_b18_0 (allS g_b18_1 (allS g_b3 all0)))
  have N65 := Fr.app N57 Nq65
  have nz68 := nl pr8.lt sz_b18_1
  have nz69 := nl pr8.lt sz_b18_0
  have fc70 := (fc20.keep K65 (ninS nz69 (ninS nz68 (ninS nz19 nin0))))
  obtain ⟨T71, X71, e71, st71⟩ := gF X65 hx hZ ho (wd41 hw) Via.refl rfl fc70 27 #[rv a1, rv a2, rv b3, iv o0, iv o1, .val (.long (q36 + (1 : Int64))), sc, iv o1] [vi1] (hb hy d17_27)
  have nz72 := nl pr2.lt sz_b18_1
  have nz73 := nl pr2.lt sz_b18_0
  have fc74 := (fc23.keep K65 (ninS nz73 (ninS nz72 (ninS nz22 nin0))))
  obtain ⟨cl75, Ar75, -, Sz75, Nn75, -, -⟩ := id fc74
  have fc77 := (fc58.keep K65)
  obtain ⟨_, T76, L76, X76, hQ76, st76⟩ := own_cV X71 hx hZ ho hml (cw35 hw) (rm20_0 l Z a0 hw b3 b18_0 (q36 + (1 : Int64)) oj0 kx18_0 b18_1 q48 oj0 kx18_1 T65.heap n0 OL65 u65_3 u65_2 u65_0 u65_4 u65_1) e71 fc77 166 #[rv a1, rv a2, rv b3, iv o0, iv o1, .val (.long (q36 + (1 : Int64))), sc, iv o1] [] [] 0 rfl (hb hy d17_166) (by decide)
  obtain ⟨b76_0, b76_1, b76_2, b76_3, kx76_0, kx76_1, rfl, Nq76, K76, u76_0, u76_1, u76_2, u76_3, u76_4, u76_5, u76_6, u76_7, u76_8, u76_9, u76_10, u76_11, u76_12, u76_13, u76_14, u76_15, u76_16, u76_17, u76_18⟩ := hQ76
  have KK76 : Keep h0 T76.heap [] := KK65.trans K76 all0
  have sz_b76_0 : h0.size ≤ b76_0 := Nat.le_trans KK65.1 u76_0
  have sz_b76_1 : h0.size ≤ b76_1 := Nat.le_trans KK65.1 u76_1
  have sz_b76_2 : h0.size ≤ b76_2 := Nat.le_trans KK65.1 u76_2
  have sz_b76_3 : h0.size ≤ b76_3 := Nat.le_trans KK65.1 u76_3
  have N76 := Fr.app N65 Nq76
  refine ⟨some (.ref b76_0), _, _, _, _, _, X76, rfl, by decide, nofun, fun fs hr => ?_, ?_⟩
  · refine st3 _ ?_
    refine XS.dup X3.here hx rfl (hb hy d17_3) rfl rfl ?_
    refine xaloadN X3 hx hy d17_4 rfl rfl ?_
    refine st6 _ ?_
    refine X6.arraylength hx (by rw [e6]; exact Ar10.1) (State.isArrayOf_alike hZ.alike Ar10.2.1) (g := (mkF m 8 #[rv a1, rv a2, uu, uu, uu, uu, uu, uu] [(.ref a4), (.ref b3), (.ref b3)])) rfl rfl (hb hy d17_8) _ ?_
    rw [len_of Sz10 Nn10]
    refine xaloadN X6 hx hy d17_9 rfl rfl ?_
    refine st13 _ ?_
    refine X13.arraylength hx (by rw [e13]; exact Ar17.1) (State.isArrayOf_alike hZ.alike Ar17.2.1) (g := (mkF m 13 #[rv a1, rv a2, uu, uu, uu, uu, uu, uu] [(.ref a11), vi1, (.ref b3), (.ref b3)])) rfl rfl (hb hy d17_13) _ ?_
    rw [len_of Sz17 Nn17]
    refine XS.iadd X13.here hx rfl (hb hy d17_14) rfl ?_
    refine st18 _ ?_
    refine XS.astoreN X18.here hx rfl (hb hy d17_18) rfl rfl (l' := #[rv a1, rv a2, rv b3, uu, uu, uu, uu, uu]) rfl ?_
    refine XS.iconst X18.here hx rfl (hb hy d17_19) ?_
    refine XS.istoreN X18.here hx rfl (hb hy d17_20) rfl (l' := #[rv a1, rv a2, rv b3, iv o0, uu, uu, uu, uu]) rfl ?_
    refine XS.iconst X18.here hx rfl (hb hy d17_21) ?_
    refine XS.istore X18.here hx rfl (hb hy d17_22) rfl (l' := #[rv a1, rv a2, rv b3, iv o0, iv o0, uu, uu, uu]) rfl ?_
    refine xiload X18 hx hy d17_24 rfl ?_
    refine xaloadN X18 hx hy d17_26 rfl rfl ?_
    refine st21 _ ?_
    refine X21.arraylength hx (by rw [e21]; exact Ar24.1) (State.isArrayOf_alike hZ.alike Ar24.2.1) (g := (mkF m 30 #[rv a1, rv a2, rv b3, iv o0, iv o0, uu, uu, uu] [(.ref a4), vi0])) rfl rfl (hb hy d17_30) _ ?_
    rw [len_of Sz24 Nn24]
    refine XS.icmpNo X21.here hx rfl (hb hy d17_31) rfl (tlt (by decide : o0 < o1)).2.1 ?_
    refine xaloadN X21 hx hy d17_34 rfl rfl ?_
    refine st25 _ ?_
    refine xiload X25 hx hy d17_38 rfl ?_
    refine own_laJ X25 hx hZ e25 fc23 (v := (.long q7)) (by decide) rfl (hb hy d17_40) ?_
    refine XS.lstore X25.here hx rfl (hb hy d17_41) rfl (l' := #[rv a1, rv a2, rv b3, iv o0, iv o0, jv q7, sc, uu]) rfl ?_
    refine xiloadN X25 hx hy d17_43 rfl ?_
    refine xaloadN X25 hx hy d17_44 rfl rfl ?_
    refine st29 _ ?_
    refine X29.arraylength hx (by rw [e29]; exact Ar32.1) (State.isArrayOf_alike hZ.alike Ar32.2.1) (g := (mkF m 48 #[rv a1, rv a2, rv b3, iv o0, iv o0, jv q7, sc, uu] [(.ref a11), vi0])) rfl rfl (hb hy d17_48) _ ?_
    rw [len_of Sz32 Nn32]
    refine XS.icmpNo X29.here hx rfl (hb hy d17_49) rfl (tlt (by decide : o0 < o1)).2.1 ?_
    refine xaloadN X29 hx hy d17_52 rfl rfl ?_
    refine st35 _ ?_
    refine xiloadN X35 hx hy d17_56 rfl ?_
    refine own_laJ X35 hx hZ e35 fc39 (v := (.long q36)) (by decide) rfl (hb hy d17_57) ?_
    refine xlload X35 hx hy d17_58 rfl ?_
    refine XS.lcmp X35.here hx rfl (hb hy d17_60) rfl ?_
    refine XS.ifYes X35.here hx rfl (pc0 := 61) (pc' := 70) rfl (hb hy d17_61) rfl ((if0 _ _).trans (flt ((fun z => pr7 ((lw_lt q36 q7).mp z)) : ¬ ((lcmpW q36 q7) < o0))).2.1) (by decide) (by decide) ?_
    refine xiloadN X35 hx hy d17_70 rfl ?_
    refine XS.istore X35.here hx rfl (hb hy d17_71) rfl (l' := #[rv a1, rv a2, rv b3, iv o0, iv o0, jv q7, sc, iv o0]) rfl ?_
    refine xiload X35 hx hy d17_73 rfl ?_
    refine xaloadN X35 hx hy d17_75 rfl rfl ?_
    refine st41 _ ?_
    refine X41.arraylength hx (by rw [e41]; exact Ar42.1) (State.isArrayOf_alike hZ.alike Ar42.2.1) (g := (mkF m 79 #[rv a1, rv a2, rv b3, iv o0, iv o0, jv q7, sc, iv o0] [(.ref a11), vi0])) rfl rfl (hb hy d17_79) _ ?_
    rw [len_of Sz42 Nn42]
    refine XS.icmpNo X41.here hx rfl (hb hy d17_80) rfl (tlt (by decide : o0 < o1)).2.1 ?_
    refine xaloadN X41 hx hy d17_83 rfl rfl ?_
    refine st43 _ ?_
    refine xiload X43 hx hy d17_87 rfl ?_
    refine own_laJ X43 hx hZ e43 fc31 (v := (.long q14)) (by decide) rfl (hb hy d17_89) ?_
    refine xaloadN X43 hx hy d17_90 rfl rfl ?_
    refine st47 _ ?_
    refine xiload X47 hx hy d17_94 rfl ?_
    show SS p e below T47 m 96 #[rv a1, rv a2, rv b3, iv o0, iv o0, jv q7, sc, iv o0] [vi0, (.ref a45), (.long q14)] _
    refine own_laJ X47 hx hZ e47 fc51 (v := (.long q48)) (by decide) rfl (hb hy d17_96) ?_
    refine XS.lcmp X47.here hx rfl (hb hy d17_97) rfl ?_
    refine XS.ifNo X47.here hx rfl (hb hy d17_98) rfl ((if0 _ _).trans (flt ((fun z => pr10 ((lw_gt q14 q48).mp z)) : ¬ (o0 < (lcmpW q14 q48)))).2.2.1) ?_
    refine xlload X47 hx hy d17_101 rfl ?_
    refine xaloadN X47 hx hy d17_103 rfl rfl ?_
    refine st53 _ ?_
    refine xiload X53 hx hy d17_107 rfl ?_
    refine own_laJ X53 hx hZ e53 fc51 (v := (.long q48)) (by decide) rfl (hb hy d17_109) ?_
    refine XS.lcmp X53.here hx rfl (hb hy d17_110) rfl ?_
    refine XS.ifNo X53.here hx rfl (hb hy d17_111) rfl ((if0 _ _).trans (flt ((fun z => pr11 ((lw_gt q7 q48).mp z)) : ¬ (o0 < (lcmpW q7 q48)))).2.2.1) ?_
    refine xaloadN X53 hx hy d17_114 rfl rfl ?_
    refine xlload X53 hx hy d17_115 rfl ?_
    refine xaloadN X53 hx hy d17_117 rfl rfl ?_
    refine st55 _ ?_
    refine xiload X55 hx hy d17_121 rfl ?_
    refine own_laJ X55 hx hZ e55 fc31 (v := (.long q14)) (by decide) rfl (hb hy d17_123) ?_
    refine XS.lconst X55.here hx rfl (hb hy d17_124) ?_
    refine XS.lsub X55.here hx rfl (hb hy d17_125) rfl ?_
    refine st57 _ ?_
    refine xaloadN X57 hx hy d17_129 rfl rfl ?_
    refine st59 _ ?_
    refine xiload X59 hx hy d17_133 rfl ?_
    refine own_laJ X59 hx hZ e59 fc39 (v := (.long q36)) (by decide) rfl (hb hy d17_135) ?_
    refine XS.lconst X59.here hx rfl (hb hy d17_136) ?_
    refine XS.ladd X59.here hx rfl (hb hy d17_137) rfl ?_
    refine XS.lstore X59.here hx rfl (hb hy d17_138) rfl (l' := #[rv a1, rv a2, rv b3, iv o0, iv o0, .val (.long (q36 + (1 : Int64))), sc, iv o0]) rfl ?_
    refine XS.iinc X59.here hx rfl (hb hy d17_140) rfl (l' := #[rv a1, rv a2, rv b3, iv o0, iv o0, .val (.long (q36 + (1 : Int64))), sc, .val (.int (o0 + o1))]) rfl ?_
    refine XS.goto X59.here hx rfl (pc0 := 143) (pc' := 73) rfl (hb hy d17_143) (by decide) (by decide) ?_
    refine xiload X59 hx hy d17_73 rfl ?_
    refine xaloadN X59 hx hy d17_75 rfl rfl ?_
    refine st61 _ ?_
    refine X61.arraylength hx (by rw [e61]; exact Ar62.1) (State.isArrayOf_alike hZ.alike Ar62.2.1) (g := (mkF m 79 #[rv a1, rv a2, rv b3, iv o0, iv o0, .val (.long (q36 + (1 : Int64))), sc, iv o1] [(.ref a11), vi1])) rfl rfl (hb hy d17_79) _ ?_
    rw [len_of Sz62 Nn62]
    refine XS.icmpYes X61.here hx rfl (pc0 := 80) (pc' := 146) rfl (hb hy d17_80) rfl (flt (by decide : ¬ (o1 < o1))).2.1 (by decide) (by decide) ?_
    refine xaloadN X61 hx hy d17_146 rfl rfl ?_
    refine xlload X61 hx hy d17_147 rfl ?_
    refine xaloadN X61 hx hy d17_149 rfl rfl ?_
    refine st63 _ ?_
    refine xiload X63 hx hy d17_153 rfl ?_
    refine own_laJ X63 hx hZ e63 fc51 (v := (.long q48)) (by decide) rfl (hb hy d17_155) ?_
    refine st65 _ ?_
    refine XS.iinc X65.here hx rfl (hb hy d17_159) rfl (l' := #[rv a1, rv a2, rv b3, iv o0, .val (.int (o0 + o1)), .val (.long (q36 + (1 : Int64))), sc, iv o1]) rfl ?_
    refine XS.goto X65.here hx rfl (pc0 := 162) (pc' := 24) rfl (hb hy d17_162) (by decide) (by decide) ?_
    refine xiload X65 hx hy d17_24 rfl ?_
    refine xaloadN X65 hx hy d17_26 rfl rfl ?_
    refine st71 _ ?_
    refine X71.arraylength hx (by rw [e71]; exact Ar75.1) (State.isArrayOf_alike hZ.alike Ar75.2.1) (g := (mkF m 30 #[rv a1, rv a2, rv b3, iv o0, iv o1, .val (.long (q36 + (1 : Int64))), sc, iv o1] [(.ref a4), vi1])) rfl rfl (hb hy d17_30) _ ?_
    rw [len_of Sz75 Nn75]
    refine XS.icmpYes X71.here hx rfl (pc0 := 31) (pc' := 165) rfl (hb hy d17_31) rfl (flt (by decide : ¬ (o1 < o1))).2.1 (by decide) (by decide) ?_
    refine xaloadN X71 hx hy d17_165 rfl rfl ?_
    refine st76 _ ?_
    show SS p e below T76 m 169 #[rv a1, rv a2, rv b3, iv o0, iv o1, .val (.long (q36 + (1 : Int64))), sc, iv o1] [(.ref b76_0)] _
    exact own_retR X76 hx hret rfl rfl rfl (hb hy d17_169) hr
  · exact ⟨b76_0, b76_1, b76_2, b76_3, kx76_0, kx76_1, rfl, N76, KK76, sz_b76_0, sz_b76_1, sz_b76_2, sz_b76_3, u76_4, u76_5, u76_6, u76_7, u76_8, u76_9, u76_10, u76_11, u76_12, u76_13, u76_14, u76_15, u76_16, u76_17, u76_18⟩
theorem rm14_2 (l : Launch) (Z : State) (a0 : Array Value) (hw : HW a0 Z) (a1 : Addr) (p2 : Int32) (a3 w4 w6 w7 : Addr) (k8 : ClassId) (q11 : Int64) (a13 : Addr) (q14 : Int64) (k15 : ClassId) (a16 : Addr) (q17 : Int64) (k18 : ClassId) (p24 : Int32) (a31 : Addr) (k32 : ClassId) (a41 a44 : Addr) (p47 : Int32) (h0 : Heap) (n0 : Nat) (OL0 : Old Z n0 h0) (pr1 : Sta Z Z.heap s45 s2 s5 (.ref w4)) (pr2 : Fld Z Z.heap w4 s29 s13 s7 (.ref w6)) (pr3 : Asl Z Z.heap w6 k8 (.object s20) o12 p2 (.ref w7)) (pr4 : Exa Z Z.heap w4 s29) (pr5 : Exa Z Z.heap w7 s42) (pr6 : Fld Z Z.heap w7 s42 "low" "J" lj0) (pr7 : Fld Z Z.heap w7 s42 "high" "J" (.long q11)) (pr8 : ¬ (q11 < oj0)) (pr9 : ¬ ((281474976710656 : Int64) < q11)) (pr10 : Fld Z h0 a3 s43 "lows" "[J" (.ref a13)) (pr11 : Arv Z h0 a13 k15 .long o1 [(.long q14)] lj0) (pr12 : Fld Z h0 a3 s43 "highs" "[J" (.ref a16)) (pr13 : Arv Z h0 a16 k18 .long o1 [(.long q17)] lj0) (pr14 : ¬ (q17 < oj0)) (pr15 : ¬ (q11 < q14)) (pr16 : (q14 - (1 : Int64)) < oj0) (pr17 : ¬ (q11 < (q17 + (1 : Int64)))) (pr18 : Fld Z h0 a1 s45 s15 "Z" (.int p24)) (pr19 : Exa Z h0 a1 s45) (pr20 : n0 ≤ a1) (pr21 : Fld Z h0 a1 s45 "sets" s8 (.ref a31)) (pr22 : Asl Z h0 a31 k32 tV o12 p2 .null) (pr23 : a31 ≠ a1) (pr24 : n0 ≤ a31) (pr25 : Ovr Z k32 s43) (pr26 : Fld Z h0 a1 s45 s11 s5 (.ref a41)) (pr27 : a1 ≠ a31) (pr28 : Fld Z h0 a1 s45 s16 s5 (.ref a44)) (pr29 : Fld Z h0 a1 s45 s48 "Z" (.int p47)) :
    MF l Z mn14 prog_66_method_6_code 4 none ⟨5, 11, 18, 3075⟩ #[(.ref a1), (.int p2), (.ref a3)] h0 (fun v h L => ∃ b19_1 b19_2 b19_3 : Addr, ∃ kx19_0 : ClassId, ∃ kx19_1 : ClassId, v = none ∧ Fr n0 L ∧ Keep h0 h [a1, a31] ∧ h0.size ≤ b19_1 ∧ h0.size ≤ b19_2 ∧ h0.size ≤ b19_3 ∧ b19_1 ≠ b19_2 ∧ b19_1 ≠ b19_3 ∧ b19_2 ≠ b19_3 ∧ Fld Z h a1 s45 s15 "Z" (.int (nar .boolean (p24 ||| o0))) ∧ Fld Z h a1 s45 "sets" s8 (.ref a31) ∧ Fld Z h a1 s45 s11 s5 (.ref a41) ∧ Fld Z h a1 s45 s16 s5 (.ref a44) ∧ Fld Z h a1 s45 s48 "Z" (.int p47) ∧ Asl Z h a31 k32 tV o12 p2 (.ref b19_1) ∧ Exa Z h b19_1 s43 ∧ Fld Z h b19_1 s43 "lows" "[J" (.ref b19_2) ∧ Fld Z h b19_1 s43 "highs" "[J" (.ref b19_3) ∧ Arv Z h b19_2 kx19_0 .long o1 [(.long (q17 + (1 : Int64)))] lj0 ∧ Exa Z h b19_2 "[J" ∧ Arv Z h b19_3 kx19_1 .long o1 [(.long q11)] lj0 ∧ Exa Z h b19_3 "[J") := by
  refine own_startN (plainFor_of_name pn_7) (fun m => (ef_14_39 m a1 p2 a3)) ?_
  intro p e s m below meth c s₁ hZ hx hy hml ho hnm hnamed hret X0 e0
  have N0 := Fr.nil n0
  obtain ⟨T5, X5, e5, st5⟩ := getS2 X0 hx hZ ho (host := "") (Or.inl (wd52 hw)) Via.refl e0 (pr1.ext OL0.2) (g := (mkF m 0 #[rv a1, iv p2, rv a3, uu] [])) rfl (hb hy d14_0)
  obtain ⟨_, T9, L9, X9, hQ9, st9⟩ := own_cI X5 hx hZ ho hml (cw24 hw) (rm15_0 l Z a0 hw w4 p2 w6 w7 k8 h0 n0 OL0 pr2 pr3) e5 (pr4.ext OL0.2) 4 #[rv a1, iv p2, rv a3, uu] [(.int p2)] [] 0 rfl (hb hy d14_4) (by decide)
  obtain ⟨rfl, Nq9, ec9⟩ := hQ9
  have N9 := Fr.app N0 Nq9
  obtain ⟨T10, X10, e10, st10⟩ := castY X9 hx hZ ho (wd118 hw) ec9 (Ins.self (pr5.ext OL0.2)) (g := (mkF m 9 #[rv a1, iv p2, rv a3, uu] [(.ref w7)])) rfl rfl (hb hy d14_9)
  obtain ⟨_, T12, L12, X12, hQ12, st12⟩ := own_cV X10 hx hZ ho hml (cw26 hw) (rm16_0 l Z a0 hw w7 q11 h0 n0 OL0 pr6 pr7 pr8 pr9) e10 (pr5.ext OL0.2) 12 #[rv a1, iv p2, rv a3, uu] [] [] 0 rfl (hb hy d14_12) (by decide)
  obtain ⟨b12_0, b12_1, b12_2, kx12_0, kx12_1, rfl, Nq12, K12, u12_0, u12_1, u12_2, u12_3, u12_4, u12_5, u12_6, u12_7, u12_8, u12_9, u12_10, u12_11, u12_12⟩ := hQ12
  have KK12 : Keep h0 T12.heap [a1, a31] := (Keep.refl h0 [a1, a31]).trans K12 all0
  have OL12 := OL0.keep K12 all0
  have N12 := Fr.app N9 Nq12
  have fc20 := (pr10.keep K12 nin0)
  have fc21 := (pr11.keep K12 nin0)
  have fc22 := (pr12.keep K12 nin0)
  have fc23 := (pr13.keep K12 nin0)
  obtain ⟨_, T19, L19, X19, hQ19, st19⟩ := own_cV X12 hx hZ ho hml (cw36 hw) (rm17_2 l Z a0 hw b12_0 a3 b12_1 oj0 kx12_0 a13 q14 k15 a16 q17 k18 b12_2 q11 kx12_1 T12.heap n0 OL12 u12_7 u12_9 fc20 fc21 fc22 fc23 pr14 u12_8 u12_11 pr15 pr8 pr16 pr17) rfl u12_6 16 #[rv a1, iv p2, rv a3, uu] [(.ref a3)] [] 0 rfl (hb hy d14_16) (by decide)
  obtain ⟨b19_0, b19_1, b19_2, b19_3, kx19_0, kx19_1, rfl, Nq19, K19, u19_0, u19_1, u19_2, u19_3, u19_4, u19_5, u19_6, u19_7, u19_8, u19_9, u19_10, u19_11, u19_12, u19_13, u19_14, u19_15, u19_16, u19_17, u19_18⟩ := hQ19
  have KK19 : Keep h0 T19.heap [a1, a31] := KK12.trans K19 all0
  have OL19 := OL12.keep K19 all0
  have sz_b19_0 : h0.size ≤ b19_0 := Nat.le_trans KK12.1 u19_0
  have sz_b19_1 : h0.size ≤ b19_1 := Nat.le_trans KK12.1 u19_1
  have sz_b19_2 : h0.size ≤ b19_2 := Nat.le_trans KK12.1 u19_2
  have sz_b19_3 : h0.size ≤ b19_3 := Nat.le_trans KK12.1 u19_3
  have N19 := Fr.app N12 Nq19
  have fc25 := ((pr18.keep K12 nin0).keep K19 nin0)
  obtain ⟨T26, X26, e26, st26⟩ := gF X19 hx hZ ho (wd190 hw) Via.refl rfl fc25 22 #[rv a1, iv p2, rv a3, rv b19_0] [(.ref a1)] (hb hy d14_22)
  obtain ⟨_, T27, L27, X27, hQ27, st27⟩ := own_cV X26 hx hZ ho hml (cw37 hw) (rm26_0 l Z a0 hw b19_0 b19_1 T19.heap n0 OL19 u19_11) e26 u19_10 26 #[rv a1, iv p2, rv a3, rv b19_0] [] [(.int p24), (.ref a1)] 2 rfl (hb hy d14_26) (by decide)
  obtain ⟨rfl, Nq27, ec27⟩ := hQ27
  have N27 := Fr.app N19 Nq27
  have fc28 := ((pr19.keep K12).keep K19)
  obtain ⟨T29, h29, X29, e29, W29, st29⟩ := putFN X27 hx hZ ho (wd190 hw) Via.refl ec27 fc25 fc28 (Or.inl (wd191 hw)) (wd46 hw) (ty := .boolean) (v' := (.int (nar .boolean (p24 ||| o0)))) (by decide) rfl (fits_nar_bool _) (g := (mkF m 30 #[rv a1, iv p2, rv a3, rv b19_0] [(.int (p24 ||| o0)), (.ref a1)])) rfl rfl (hb hy d14_30)
  have Fw29 := fc25.same W29
  have KK29 : Keep h0 h29 [a1, a31] := KK19.wr W29 (Or.inl (List.mem_of_getElem? (i := 0) rfl))
  have OL29 := OL19.wr W29 pr20
  have N29 := Fr.snoc X29 N27 pr20
  obtain ⟨T30, h30, X30, e30, E30, LM30, st30⟩ := own_mk X29 hx hZ hml hnamed (wd197 hw) (wd200 hw) own_lok1 rfl rfl e29 a1 p2 #[rv a1, iv p2, rv a3, rv b19_0] [(.ref b19_0)] rfl (hb hy d14_36) (by decide) (by decide) (W := 1) rfl (by decide)
  obtain ⟨b30, g30⟩ : ∃ z, z = h29.size := ⟨_, rfl⟩
  rw [← g30] at LM30 st30
  have KK30 : Keep h0 h30 [a1, a31] := KK29.ext E30
  have OL30 := OL29.ext E30
  have nz34 := nl pr19.lt sz_b19_0
  have fc35 := ((u19_11.other W29 (Or.inl (Ne.symm nz34))).ext E30)
  have fc36 := ((((pr21.keep K12 nin0).keep K19 nin0).other W29 (Or.inr (slot_ne (Or.inr (wd69 hw)) (Or.inl (wd191 hw)) (by decide) (t := (.array tV)) (t' := .boolean) (by decide) (by decide)))).ext E30)
  have fc37 := ((((pr22.keep K12 nin0).keep K19 nin0).other W29 pr23).ext E30)
  have fc38 := ((u19_12.wr W29).ext E30)
  have fc39 := ((fc28.wr W29).ext E30)
  have fc40 := ((u19_10.wr W29).ext E30)
  obtain ⟨_, T33, L33, X33, hQ33, st33⟩ := own_cV X30 hx hZ ho hml (cw39 hw) (rm27_0 l Z a0 hw b19_0 b30 b19_1 a1 p2 a31 k32 h30 n0 OL30 fc35 LM30 fc36 fc37 pr24 pr25 fc38 fc39) e30 fc40 41 #[rv a1, iv p2, rv a3, rv b19_0] [(.ref b30)] [] 0 rfl (hb hy d14_41) (by decide)
  obtain ⟨rfl, Nq33, K33, u33_0⟩ := hQ33
  have KK33 : Keep h0 T33.heap [a1, a31] := KK30.trans K33 (allS (Or.inl (List.mem_of_getElem? (i := 1) rfl)) all0)
  have N33 := Fr.app N29 Nq33
  have fc42 := (((((pr26.keep K12 nin0).keep K19 nin0).other W29 (Or.inr (slot_ne (Or.inr (wd97 hw)) (Or.inl (wd191 hw)) (by decide) (t := (.object s30)) (t' := .boolean) (by decide) (by decide)))).ext E30).keep K33 (ninS pr27 nin0))
  have fc43 := ((Fw29.ext E30).keep K33 (ninS pr27 nin0))
  have fc45 := (((((pr28.keep K12 nin0).keep K19 nin0).other W29 (Or.inr (slot_ne (Or.inr (wd95 hw)) (Or.inl (wd191 hw)) (by decide) (t := (.object s30)) (t' := .boolean) (by decide) (by decide)))).ext E30).keep K33 (ninS pr27 nin0))
  have fc46 := (fc36.keep K33 (ninS pr27 nin0))
  have fc48 := (((((pr29.keep K12 nin0).keep K19 nin0).other W29 (Or.inr (slot_ne (Or.inl (wd104 hw)) (Or.inl (wd191 hw)) (by decide) (t := .boolean) (t' := .boolean) (by decide) (by decide)))).ext E30).keep K33 (ninS pr27 nin0))
  have fc49 := (fc38.keep K33)
  have nz50 := nl pr29.lt sz_b19_1
  have nz51 := nl pr22.lt sz_b19_1
  have fc52 := (((u19_13.other W29 (Or.inl (Ne.symm nz50))).ext E30).keep K33 (ninS (Ne.symm nz51) nin0))
  have fc53 := (((u19_14.other W29 (Or.inl (Ne.symm nz50))).ext E30).keep K33 (ninS (Ne.symm nz51) nin0))
  have nz54 := nl pr29.lt sz_b19_2
  have nz55 := nl pr22.lt sz_b19_2
  have fc56 := (((u19_15.other W29 (Ne.symm nz54)).ext E30).keep K33 (ninS (Ne.symm nz55) nin0))
  have fc57 := (((u19_16.wr W29).ext E30).keep K33)
  have nz58 := nl pr29.lt sz_b19_3
  have nz59 := nl pr22.lt sz_b19_3
  have fc60 := (((u19_17.other W29 (Ne.symm nz58)).ext E30).keep K33 (ninS (Ne.symm nz59) nin0))
  have fc61 := (((u19_18.wr W29).ext E30).keep K33)
  refine ⟨none, _, _, _, _, _, X33, rfl, by decide, fun _ => rfl, fun fs hr => ?_, ?_⟩
  · refine st5 _ ?_
    refine xiloadN X5 hx hy d14_3 rfl ?_
    refine st9 _ ?_
    refine st10 _ ?_
    refine st12 _ ?_
    refine xaloadN X12 hx hy d14_15 rfl rfl ?_
    refine st19 _ ?_
    refine XS.astoreN X19.here hx rfl (hb hy d14_19) rfl rfl (l' := #[rv a1, iv p2, rv a3, rv b19_0]) rfl ?_
    refine xaloadN X19 hx hy d14_20 rfl rfl ?_
    refine XS.dup X19.here hx rfl (hb hy d14_21) rfl rfl ?_
    refine st26 _ ?_
    refine xaloadN X26 hx hy d14_25 rfl rfl ?_
    refine st27 _ ?_
    refine XS.ior X27.here hx rfl (hb hy d14_29) rfl ?_
    refine st29 _ ?_
    refine xaloadN X29 hx hy d14_33 rfl rfl ?_
    refine xaloadN X29 hx hy d14_34 rfl rfl ?_
    refine xiloadN X29 hx hy d14_35 rfl ?_
    refine st30 _ ?_
    refine st33 _ ?_
    show SS p e below T33 m 44 #[rv a1, iv p2, rv a3, rv b19_0] [] _
    exact X33.returnOut hx hret (hb hy d14_44) hr
  · exact ⟨b19_1, b19_2, b19_3, kx19_0, kx19_1, rfl, N33, KK33, sz_b19_1, sz_b19_2, sz_b19_3, u19_7, u19_8, u19_9, fc43, fc46, fc42, fc45, fc48, u33_0, fc49, fc52, fc53, fc56, fc57, fc60, fc61⟩
theorem d36_102 : DC cb36 102 (.iinc 4 1) 3 := by decide +kernel
theorem d36_105 : DC cb36 105 (.goto (-81)) 3 := by decide +kernel
theorem rm36_1 (l : Launch) (Z : State) (a0 : Array Value) (hw : HW a0 Z) (a1 a2 a4 : Addr) (q7 : Int64) (k8 : ClassId) (a11 : Addr) (q14 : Int64) (k15 : ClassId) (a36 : Addr) (q39 : Int64) (k40 : ClassId) (a44 : Addr) (q47 : Int64) (k48 : ClassId) (w63 : Addr) (h0 : Heap) (n0 : Nat) (OL0 : Old Z n0 h0) (pr1 : Fld Z h0 a1 s43 "lows" "[J" (.ref a4)) (pr2 : Arv Z h0 a4 k8 .long o1 [(.long q7)] lj0) (pr3 : Fld Z h0 a2 s43 "lows" "[J" (.ref a11)) (pr4 : Arv Z h0 a11 k15 .long o1 [(.long q14)] lj0) (pr5 : Fld Z h0 a1 s43 "highs" "[J" (.ref a36)) (pr6 : Arv Z h0 a36 k40 .long o1 [(.long q39)] lj0) (pr7 : Fld Z h0 a2 s43 "highs" "[J" (.ref a44)) (pr8 : Arv Z h0 a44 k48 .long o1 [(.long q47)] lj0) (pr9 : (own_jmin q39 q47) < (own_jmax q7 q14)) (pr10 : ¬ (q39 < q47)) (pr11 : Sta Z Z.heap s32 "EMPTY" s6 (.ref w63)) :
    MF l Z mn36 prog_63_method_4_code 5 (some (.object s32)) ⟨2, 3, 7, 26⟩ #[(.ref a1), (.ref a2)] h0 (fun v h L => v = some (.ref w63) ∧ Fr n0 L ∧ Keep h0 h []) := by
  refine own_start (plainFor_of_name pn_2) (fun m => (ef_36_43 m a1 a2)) ?_
  intro p e s m below meth c s₁ hZ hx hy hml ho hnm hret X0 e0
  have N0 := Fr.nil n0
  obtain ⟨T3, h3, X3, e3, E3, A3, D3, -, st3⟩ := newO X0 hx hZ ho (wd136 hw) (wd137 hw) (wd138 hw) e0 (g := (mkF m 0 #[rv a1, rv a2, uu, uu, uu] [])) rfl (hb hy d36_0) (by decide) (by decide)
  obtain ⟨b3, g3⟩ : ∃ z, z = h0.size := ⟨_, rfl⟩
  rw [← g3] at A3 D3 st3
  have g_b3 : n0 ≤ b3 := (Nat.le_trans (Nat.le_trans (Nat.le_of_eq OL0.1.symm) OL0.2.1) (Nat.le_of_eq g3.symm))
  have sz_b3 : h0.size ≤ b3 := (Nat.le_trans (Keep.refl h0 []).1 (Nat.le_of_eq g3.symm))
  have KK3 : Keep h0 h3 [] := (Keep.refl h0 []).ext E3
  have OL3 := OL0.ext E3
  have F_lows_b3 : Fld Z h3 b3 s44 "lows" "[J" .null := D3 (Or.inr (wd144 hw)) (ty := (.array .long)) (by decide)
  have F_highs_b3 : Fld Z h3 b3 s44 "highs" "[J" .null := D3 (Or.inr (wd146 hw)) (ty := (.array .long)) (by decide)
  have F_count_b3 : Fld Z h3 b3 s44 "count" "I" vi0 := D3 (Or.inl (wd153 hw)) (ty := .int) (by decide)
  have fc5 := (pr1.ext E3)
  obtain ⟨T6, X6, e6, st6⟩ := gF X3 hx hZ ho (wd41 hw) Via.refl e3 fc5 5 #[rv a1, rv a2, uu, uu, uu] [(.ref b3), (.ref b3)] (hb hy d36_5)
  have fc9 := (pr2.ext E3)
  obtain ⟨cl10, Ar10, -, Sz10, Nn10, -, -⟩ := id fc9
  have fc12 := (pr3.ext E3)
  obtain ⟨T13, X13, e13, st13⟩ := gF X6 hx hZ ho (wd41 hw) Via.refl e6 fc12 10 #[rv a1, rv a2, uu, uu, uu] [vi1, (.ref b3), (.ref b3)] (hb hy d36_10)
  have fc16 := (pr4.ext E3)
  obtain ⟨cl17, Ar17, -, Sz17, Nn17, -, -⟩ := id fc16
  obtain ⟨_, T18, L18, X18, hQ18, st18⟩ := own_cN X13 hx hZ ho hml (cw27 hw) (rm18_0 l Z a0 hw b3 h3 n0 OL3 A3 F_lows_b3 g_b3 F_highs_b3 F_count_b3) e13 b3 15 #[rv a1, rv a2, uu, uu, uu] [(.int o2)] [(.ref b3)] 1 rfl (hb hy d36_15) (by decide)
  obtain ⟨b18_0, b18_1, kx18_0, kx18_1, rfl, Nq18, K18, u18_0, u18_1, u18_2, u18_3, u18_4, u18_5, u18_6, u18_7, u18_8, u18_9⟩ := hQ18
  have KK18 : Keep h0 T18.heap [] := KK3.trans K18 (allS (Or.inr sz_b3) all0)
  have OL18 := OL3.keep K18 (allS g_b3 all0)
  have N18 := Fr.app N0 Nq18
  have nz19 := nl pr1.lt sz_b3
  have fc20 := (fc5.keep K18 (ninS nz19 nin0))
  obtain ⟨T21, X21, e21, st21⟩ := gF X18 hx hZ ho (wd41 hw) Via.refl rfl fc20 26 #[rv a1, rv a2, rv b3, iv o0, iv o0] [vi0] (hb hy d36_26)
  have nz22 := nl pr2.lt sz_b3
  have fc23 := (fc9.keep K18 (ninS nz22 nin0))
  obtain ⟨cl24, Ar24, -, Sz24, Nn24, -, -⟩ := id fc23
  have nz25 := nl pr3.lt sz_b3
  have fc26 := (fc12.keep K18 (ninS nz25 nin0))
  obtain ⟨T27, X27, e27, st27⟩ := gF X21 hx hZ ho (wd41 hw) Via.refl e21 fc26 36 #[rv a1, rv a2, rv b3, iv o0, iv o0] [vi0] (hb hy d36_36)
  have nz28 := nl pr4.lt sz_b3
  have fc29 := (fc16.keep K18 (ninS nz28 nin0))
  obtain ⟨cl30, Ar30, -, Sz30, Nn30, -, -⟩ := id fc29
  obtain ⟨T31, X31, e31, st31⟩ := gF X27 hx hZ ho (wd41 hw) Via.refl e27 fc20 45 #[rv a1, rv a2, rv b3, iv o0, iv o0] [(.ref b3)] (hb hy d36_45)
  obtain ⟨T33, X33, e33, st33⟩ := gF X31 hx hZ ho (wd41 hw) Via.refl e31 fc26 51 #[rv a1, rv a2, rv b3, iv o0, iv o0] [(.long q7), (.ref b3)] (hb hy d36_51)
  obtain ⟨_, T35, L35, X35, hQ35, st35⟩ := own_cS X33 hx hZ ho hml (cw41 hw) (mg_own_jmax l Z a0 hw q7 q14 T18.heap n0 OL18 ) e33 57 #[rv a1, rv a2, rv b3, iv o0, iv o0] [(.long q7), (.long q14)] [(.ref b3)] 1 rfl (hb hy d36_57) (by decide)
  obtain ⟨rfl, Nq35, ec35⟩ := hQ35
  have N35 := Fr.app N18 Nq35
  have fc37 := ((pr5.ext E3).keep K18 (ninS nz19 nin0))
  obtain ⟨T38, X38, e38, st38⟩ := gF X35 hx hZ ho (wd43 hw) Via.refl ec35 fc37 61 #[rv a1, rv a2, rv b3, iv o0, iv o0] [(.long (own_jmax q7 q14)), (.ref b3)] (hb hy d36_61)
  have nz41 := nl pr6.lt sz_b3
  have fc42 := ((pr6.ext E3).keep K18 (ninS nz41 nin0))
  have fc45 := ((pr7.ext E3).keep K18 (ninS nz25 nin0))
  obtain ⟨T46, X46, e46, st46⟩ := gF X38 hx hZ ho (wd43 hw) Via.refl e38 fc45 67 #[rv a1, rv a2, rv b3, iv o0, iv o0] [(.long q39), (.long (own_jmax q7 q14)), (.ref b3)] (hb hy d36_67)
  have nz49 := nl pr8.lt sz_b3
  have fc50 := ((pr8.ext E3).keep K18 (ninS nz49 nin0))
  obtain ⟨_, T52, L52, X52, hQ52, st52⟩ := own_cS X46 hx hZ ho hml (cw42 hw) (mg_own_jmin l Z a0 hw q39 q47 T18.heap n0 OL18 ) e46 73 #[rv a1, rv a2, rv b3, iv o0, iv o0] [(.long q39), (.long q47)] [(.long (own_jmax q7 q14)), (.ref b3)] 3 rfl (hb hy d36_73) (by decide)
  obtain ⟨rfl, Nq52, ec52⟩ := hQ52
  have N52 := Fr.app N35 Nq52
  have fc54 := (A3.keep K18)
  obtain ⟨_, T53, L53, X53, hQ53, st53⟩ := own_cV X52 hx hZ ho hml (cw28 hw) (rm19_1 l Z a0 hw b3 (own_jmax q7 q14) (own_jmin q39 q47) T18.heap n0 OL18 pr9) ec52 fc54 76 #[rv a1, rv a2, rv b3, iv o0, iv o0] [(.long (own_jmax q7 q14)), (.long (own_jmin q39 q47))] [] 0 rfl (hb hy d36_76) (by decide)
  obtain ⟨rfl, Nq53, ec53⟩ := hQ53
  have N53 := Fr.app N52 Nq53
  obtain ⟨T55, X55, e55, st55⟩ := gF X53 hx hZ ho (wd43 hw) Via.refl ec53 fc37 80 #[rv a1, rv a2, rv b3, iv o0, iv o0] [] (hb hy d36_80)
  obtain ⟨T57, X57, e57, st57⟩ := gF X55 hx hZ ho (wd43 hw) Via.refl e55 fc45 86 #[rv a1, rv a2, rv b3, iv o0, iv o0] [(.long q39)] (hb hy d36_86)
  obtain ⟨T59, X59, e59, st59⟩ := gF X57 hx hZ ho (wd41 hw) Via.refl e57 fc20 26 #[rv a1, rv a2, rv b3, iv o0, iv o1] [vi0] (hb hy d36_26)
  obtain ⟨cl60, Ar60, -, Sz60, Nn60, -, -⟩ := id fc23
  obtain ⟨T61, X61, e61, st61⟩ := gF X59 hx hZ ho (wd41 hw) Via.refl e59 fc26 36 #[rv a1, rv a2, rv b3, iv o0, iv o1] [vi1] (hb hy d36_36)
  obtain ⟨cl62, Ar62, -, Sz62, Nn62, -, -⟩ := id fc29
  obtain ⟨_, T64, L64, X64, hQ64, st64⟩ := own_cV X61 hx hZ ho hml (cw35 hw) (rm20_1 l Z a0 hw b3 w63 T18.heap n0 OL18 u18_5 pr11) e61 fc54 109 #[rv a1, rv a2, rv b3, iv o0, iv o1] [] [] 0 rfl (hb hy d36_109) (by decide)
  obtain ⟨rfl, Nq64, ec64⟩ := hQ64
  have N64 := Fr.app N53 Nq64
  refine ⟨some (.ref w63), _, _, _, _, _, X64, ec64, by decide, nofun, fun fs hr => ?_, ?_⟩
  · refine st3 _ ?_
    refine XS.dup X3.here hx rfl (hb hy d36_3) rfl rfl ?_
    refine xaloadN X3 hx hy d36_4 rfl rfl ?_
    refine st6 _ ?_
    refine X6.arraylength hx (by rw [e6]; exact Ar10.1) (State.isArrayOf_alike hZ.alike Ar10.2.1) (g := (mkF m 8 #[rv a1, rv a2, uu, uu, uu] [(.ref a4), (.ref b3), (.ref b3)])) rfl rfl (hb hy d36_8) _ ?_
    rw [len_of Sz10 Nn10]
    refine xaloadN X6 hx hy d36_9 rfl rfl ?_
    refine st13 _ ?_
    refine X13.arraylength hx (by rw [e13]; exact Ar17.1) (State.isArrayOf_alike hZ.alike Ar17.2.1) (g := (mkF m 13 #[rv a1, rv a2, uu, uu, uu] [(.ref a11), vi1, (.ref b3), (.ref b3)])) rfl rfl (hb hy d36_13) _ ?_
    rw [len_of Sz17 Nn17]
    refine XS.iadd X13.here hx rfl (hb hy d36_14) rfl ?_
    refine st18 _ ?_
    refine XS.astoreN X18.here hx rfl (hb hy d36_18) rfl rfl (l' := #[rv a1, rv a2, rv b3, uu, uu]) rfl ?_
    refine XS.iconst X18.here hx rfl (hb hy d36_19) ?_
    refine XS.istoreN X18.here hx rfl (hb hy d36_20) rfl (l' := #[rv a1, rv a2, rv b3, iv o0, uu]) rfl ?_
    refine XS.iconst X18.here hx rfl (hb hy d36_21) ?_
    refine XS.istore X18.here hx rfl (hb hy d36_22) rfl (l' := #[rv a1, rv a2, rv b3, iv o0, iv o0]) rfl ?_
    refine xiloadN X18 hx hy d36_24 rfl ?_
    refine xaloadN X18 hx hy d36_25 rfl rfl ?_
    refine st21 _ ?_
    refine X21.arraylength hx (by rw [e21]; exact Ar24.1) (State.isArrayOf_alike hZ.alike Ar24.2.1) (g := (mkF m 29 #[rv a1, rv a2, rv b3, iv o0, iv o0] [(.ref a4), vi0])) rfl rfl (hb hy d36_29) _ ?_
    rw [len_of Sz24 Nn24]
    refine XS.icmpNo X21.here hx rfl (hb hy d36_30) rfl (tlt (by decide : o0 < o1)).2.1 ?_
    refine xiload X21 hx hy d36_33 rfl ?_
    refine xaloadN X21 hx hy d36_35 rfl rfl ?_
    refine st27 _ ?_
    refine X27.arraylength hx (by rw [e27]; exact Ar30.1) (State.isArrayOf_alike hZ.alike Ar30.2.1) (g := (mkF m 39 #[rv a1, rv a2, rv b3, iv o0, iv o0] [(.ref a11), vi0])) rfl rfl (hb hy d36_39) _ ?_
    rw [len_of Sz30 Nn30]
    refine XS.icmpNo X27.here hx rfl (hb hy d36_40) rfl (tlt (by decide : o0 < o1)).2.1 ?_
    refine xaloadN X27 hx hy d36_43 rfl rfl ?_
    refine xaloadN X27 hx hy d36_44 rfl rfl ?_
    refine st31 _ ?_
    refine xiloadN X31 hx hy d36_48 rfl ?_
    refine own_laJ X31 hx hZ e31 fc23 (v := (.long q7)) (by decide) rfl (hb hy d36_49) ?_
    refine xaloadN X31 hx hy d36_50 rfl rfl ?_
    refine st33 _ ?_
    refine xiload X33 hx hy d36_54 rfl ?_
    refine own_laJ X33 hx hZ e33 fc29 (v := (.long q14)) (by decide) rfl (hb hy d36_56) ?_
    refine st35 _ ?_
    refine xaloadN X35 hx hy d36_60 rfl rfl ?_
    refine st38 _ ?_
    refine xiloadN X38 hx hy d36_64 rfl ?_
    refine own_laJ X38 hx hZ e38 fc42 (v := (.long q39)) (by decide) rfl (hb hy d36_65) ?_
    refine xaloadN X38 hx hy d36_66 rfl rfl ?_
    refine st46 _ ?_
    refine xiload X46 hx hy d36_70 rfl ?_
    refine own_laJ X46 hx hZ e46 fc50 (v := (.long q47)) (by decide) rfl (hb hy d36_72) ?_
    refine st52 _ ?_
    refine st53 _ ?_
    refine xaloadN X53 hx hy d36_79 rfl rfl ?_
    refine st55 _ ?_
    refine xiloadN X55 hx hy d36_83 rfl ?_
    refine own_laJ X55 hx hZ e55 fc42 (v := (.long q39)) (by decide) rfl (hb hy d36_84) ?_
    refine xaloadN X55 hx hy d36_85 rfl rfl ?_
    refine st57 _ ?_
    show SS p e below T57 m 89 #[rv a1, rv a2, rv b3, iv o0, iv o0] [(.ref a44), (.long q39)] _
    refine xiload X57 hx hy d36_89 rfl ?_
    refine own_laJ X57 hx hZ e57 fc50 (v := (.long q47)) (by decide) rfl (hb hy d36_91) ?_
    refine XS.lcmp X57.here hx rfl (hb hy d36_92) rfl ?_
    refine XS.ifYes X57.here hx rfl (pc0 := 93) (pc' := 102) rfl (hb hy d36_93) rfl ((if0 _ _).trans (flt ((fun z => pr10 ((lw_lt q39 q47).mp z)) : ¬ ((lcmpW q39 q47) < o0))).2.1) (by decide) (by decide) ?_
    refine XS.iinc X57.here hx rfl (hb hy d36_102) rfl (l' := #[rv a1, rv a2, rv b3, iv o0, .val (.int (o0 + o1))]) rfl ?_
    refine XS.goto X57.here hx rfl (pc0 := 105) (pc' := 24) rfl (hb hy d36_105) (by decide) (by decide) ?_
    refine xiloadN X57 hx hy d36_24 rfl ?_
    refine xaloadN X57 hx hy d36_25 rfl rfl ?_
    refine st59 _ ?_
    refine X59.arraylength hx (by rw [e59]; exact Ar60.1) (State.isArrayOf_alike hZ.alike Ar60.2.1) (g := (mkF m 29 #[rv a1, rv a2, rv b3, iv o0, iv o1] [(.ref a4), vi0])) rfl rfl (hb hy d36_29) _ ?_
    rw [len_of Sz60 Nn60]
    refine XS.icmpNo X59.here hx rfl (hb hy d36_30) rfl (tlt (by decide : o0 < o1)).2.1 ?_
    refine xiload X59 hx hy d36_33 rfl ?_
    refine xaloadN X59 hx hy d36_35 rfl rfl ?_
    refine st61 _ ?_
    refine X61.arraylength hx (by rw [e61]; exact Ar62.1) (State.isArrayOf_alike hZ.alike Ar62.2.1) (g := (mkF m 39 #[rv a1, rv a2, rv b3, iv o0, iv o1] [(.ref a11), vi1])) rfl rfl (hb hy d36_39) _ ?_
    rw [len_of Sz62 Nn62]
    refine XS.icmpYes X61.here hx rfl (pc0 := 40) (pc' := 108) rfl (hb hy d36_40) rfl (flt (by decide : ¬ (o1 < o1))).2.1 (by decide) (by decide) ?_
    refine xaloadN X61 hx hy d36_108 rfl rfl ?_
    refine st64 _ ?_
    show SS p e below T64 m 112 #[rv a1, rv a2, rv b3, iv o0, iv o1] [(.ref w63)] _
    exact own_retR X64 hx hret rfl rfl rfl (hb hy d36_112) hr
  · exact ⟨rfl, N64, KK18⟩
theorem rm29_2 (l : Launch) (Z : State) (a0 : Array Value) (hw : HW a0 Z) (a1 : Addr) (p2 : Int32) (a3 a4 a6 : Addr) (k7 : ClassId) (a11 : Addr) (q12 : Int64) (k13 : ClassId) (a14 : Addr) (q15 : Int64) (k16 : ClassId) (a17 : Addr) (q18 : Int64) (k19 : ClassId) (a20 : Addr) (q21 : Int64) (k22 : ClassId) (w23 : Addr) (p25 : Int32) (a33 a36 : Addr) (p39 : Int32) (h0 : Heap) (n0 : Nat) (OL0 : Old Z n0 h0) (pr1 : Fld Z h0 a1 s45 "sets" s8 (.ref a4)) (pr2 : Asl Z h0 a4 k7 tV o12 p2 (.ref a6)) (pr3 : Fld Z h0 a6 s43 "lows" "[J" (.ref a11)) (pr4 : Arv Z h0 a11 k13 .long o1 [(.long q12)] lj0) (pr5 : Fld Z h0 a3 s43 "lows" "[J" (.ref a14)) (pr6 : Arv Z h0 a14 k16 .long o1 [(.long q15)] lj0) (pr7 : Fld Z h0 a6 s43 "highs" "[J" (.ref a17)) (pr8 : Arv Z h0 a17 k19 .long o1 [(.long q18)] lj0) (pr9 : Fld Z h0 a3 s43 "highs" "[J" (.ref a20)) (pr10 : Arv Z h0 a20 k22 .long o1 [(.long q21)] lj0) (pr11 : (own_jmin q18 q21) < (own_jmax q12 q15)) (pr12 : ¬ (q18 < q21)) (pr13 : Sta Z Z.heap s32 "EMPTY" s6 (.ref w23)) (pr14 : Exa Z h0 a6 s43) (pr15 : Fld Z h0 a1 s45 s15 "Z" (.int p25)) (pr16 : Fld Z Z.heap w23 s32 "value" s3 .null) (pr17 : Exa Z Z.heap w23 s32) (pr18 : Exa Z h0 a1 s45) (pr19 : n0 ≤ a1) (pr20 : Fld Z h0 a1 s45 s11 s5 (.ref a33)) (pr21 : Fld Z h0 a1 s45 s16 s5 (.ref a36)) (pr22 : Fld Z h0 a1 s45 s48 "Z" (.int p39)) :
    MF l Z mn29 prog_66_method_2_code 4 none ⟨3, 4, 9, 3075⟩ #[(.ref a1), (.int p2), (.ref a3)] h0 (fun v h L => v = none ∧ Fr n0 L ∧ Keep h0 h [a1] ∧ Fld Z h a1 s45 "sets" s8 (.ref a4) ∧ Fld Z h a1 s45 s15 "Z" (.int (nar .boolean (p25 ||| o1))) ∧ Fld Z h a1 s45 s11 s5 (.ref a33) ∧ Fld Z h a1 s45 s16 s5 (.ref a36) ∧ Fld Z h a1 s45 s48 "Z" (.int p39)) := by
  refine own_startN (plainFor_of_name pn_7) (fun m => (ef_29_12 m a1 p2 a3)) ?_
  intro p e s m below meth c s₁ hZ hx hy hml ho hnm hnamed hret X0 e0
  have N0 := Fr.nil n0
  obtain ⟨T5, X5, e5, st5⟩ := gF X0 hx hZ ho (wd68 hw) Via.refl e0 pr1 1 #[rv a1, iv p2, rv a3, uu] [] (hb hy d29_1)
  obtain ⟨T9, X9, e9, st9⟩ := gF X5 hx hZ ho (wd68 hw) Via.refl e5 pr1 18 #[rv a1, iv p2, rv a3, uu] [] (hb hy d29_18)
  obtain ⟨_, T24, L24, X24, hQ24, st24⟩ := own_cV X9 hx hZ ho hml (cw44 hw) (rm36_1 l Z a0 hw a6 a3 a11 q12 k13 a14 q15 k16 a17 q18 k19 a20 q21 k22 w23 h0 n0 OL0 pr3 pr4 pr5 pr6 pr7 pr8 pr9 pr10 pr11 pr12 pr13) e9 pr14 24 #[rv a1, iv p2, rv a3, uu] [(.ref a3)] [] 0 rfl (hb hy d29_24) (by decide)
  obtain ⟨rfl, Nq24, K24⟩ := hQ24
  have KK24 : Keep h0 T24.heap [a1] := (Keep.refl h0 [a1]).trans K24 all0
  have OL24 := OL0.keep K24 all0
  have N24 := Fr.app N0 Nq24
  have fc26 := (pr15.keep K24 nin0)
  obtain ⟨T27, X27, e27, st27⟩ := gF X24 hx hZ ho (wd190 hw) Via.refl rfl fc26 30 #[rv a1, iv p2, rv a3, rv w23] [(.ref a1)] (hb hy d29_30)
  obtain ⟨_, T28, L28, X28, hQ28, st28⟩ := own_cV X27 hx hZ ho hml (cw37 hw) (rm26_1 l Z a0 hw w23 T24.heap n0 OL24 pr16) e27 (pr17.ext OL24.2) 34 #[rv a1, iv p2, rv a3, rv w23] [] [(.int p25), (.ref a1)] 2 rfl (hb hy d29_34) (by decide)
  obtain ⟨rfl, Nq28, ec28⟩ := hQ28
  have N28 := Fr.app N24 Nq28
  have fc29 := (pr18.keep K24)
  obtain ⟨T30, h30, X30, e30, W30, st30⟩ := putFN X28 hx hZ ho (wd190 hw) Via.refl ec28 fc26 fc29 (Or.inl (wd191 hw)) (wd46 hw) (ty := .boolean) (v' := (.int (nar .boolean (p25 ||| o1)))) (by decide) rfl (fits_nar_bool _) (g := (mkF m 38 #[rv a1, iv p2, rv a3, rv w23] [(.int (p25 ||| o1)), (.ref a1)])) rfl rfl (hb hy d29_38)
  have Fw30 := fc26.same W30
  have KK30 : Keep h0 h30 [a1] := KK24.wr W30 (Or.inl (List.mem_of_getElem? (i := 0) rfl))
  have OL30 := OL24.wr W30 pr19
  have N30 := Fr.snoc X30 N28 pr19
  obtain ⟨T31, h31, X31, e31, E31, LM31, st31⟩ := own_mk X30 hx hZ hml hnamed (wd282 hw) (wd200 hw) own_lok0 rfl rfl e30 a1 p2 #[rv a1, iv p2, rv a3, rv w23] [(.ref w23)] rfl (hb hy d29_44) (by decide) (by decide) (W := 1) rfl (by decide)
  obtain ⟨b31, g31⟩ : ∃ z, z = h30.size := ⟨_, rfl⟩
  rw [← g31] at LM31 st31
  have KK31 : Keep h0 h31 [a1] := KK30.ext E31
  have OL31 := OL30.ext E31
  obtain ⟨_, T32, L32, X32, hQ32, st32⟩ := own_cV X31 hx hZ ho hml (cw39 hw) (rm27_1 l Z a0 hw w23 b31 h31 n0 OL31 pr16) e31 (pr17.ext OL31.2) 49 #[rv a1, iv p2, rv a3, rv w23] [(.ref b31)] [] 0 rfl (hb hy d29_49) (by decide)
  obtain ⟨rfl, Nq32, ec32⟩ := hQ32
  have N32 := Fr.app N30 Nq32
  have fc34 := (((pr20.keep K24 nin0).other W30 (Or.inr (slot_ne (Or.inr (wd97 hw)) (Or.inl (wd191 hw)) (by decide) (t := (.object s30)) (t' := .boolean) (by decide) (by decide)))).ext E31)
  have fc35 := (Fw30.ext E31)
  have fc37 := (((pr21.keep K24 nin0).other W30 (Or.inr (slot_ne (Or.inr (wd95 hw)) (Or.inl (wd191 hw)) (by decide) (t := (.object s30)) (t' := .boolean) (by decide) (by decide)))).ext E31)
  have fc38 := (((pr1.keep K24 nin0).other W30 (Or.inr (slot_ne (Or.inr (wd69 hw)) (Or.inl (wd191 hw)) (by decide) (t := (.array tV)) (t' := .boolean) (by decide) (by decide)))).ext E31)
  have fc40 := (((pr22.keep K24 nin0).other W30 (Or.inr (slot_ne (Or.inl (wd104 hw)) (Or.inl (wd191 hw)) (by decide) (t := .boolean) (t' := .boolean) (by decide) (by decide)))).ext E31)
  refine ⟨none, _, _, _, _, _, X32, ec32, by decide, fun _ => rfl, fun fs hr => ?_, ?_⟩
  · refine xaloadN X0 hx hy d29_0 rfl rfl ?_
    refine st5 _ ?_
    refine xiloadN X5 hx hy d29_4 rfl ?_
    refine own_lA X5 hx hZ e5 pr2 rfl (hb hy d29_5) ?_
    refine XS.ifnonnullYes X5.here hx rfl (pc0 := 6) (pc' := 17) rfl (hb hy d29_6) rfl (by decide) (by decide) ?_
    refine xaloadN X5 hx hy d29_17 rfl rfl ?_
    refine st9 _ ?_
    refine xiloadN X9 hx hy d29_21 rfl ?_
    refine own_lA X9 hx hZ e9 pr2 rfl (hb hy d29_22) ?_
    refine xaloadN X9 hx hy d29_23 rfl rfl ?_
    refine st24 _ ?_
    refine XS.astoreN X24.here hx rfl (hb hy d29_27) rfl rfl (l' := #[rv a1, iv p2, rv a3, rv w23]) rfl ?_
    refine xaloadN X24 hx hy d29_28 rfl rfl ?_
    refine XS.dup X24.here hx rfl (hb hy d29_29) rfl rfl ?_
    refine st27 _ ?_
    refine xaloadN X27 hx hy d29_33 rfl rfl ?_
    refine st28 _ ?_
    refine XS.ior X28.here hx rfl (hb hy d29_37) rfl ?_
    refine st30 _ ?_
    refine xaloadN X30 hx hy d29_41 rfl rfl ?_
    refine xaloadN X30 hx hy d29_42 rfl rfl ?_
    refine xiloadN X30 hx hy d29_43 rfl ?_
    refine st31 _ ?_
    refine st32 _ ?_
    show SS p e below T32 m 52 #[rv a1, iv p2, rv a3, rv w23] [] _
    exact X32.returnOut hx hret (hb hy d29_52) hr
  · exact ⟨rfl, N32, KK31, fc38, fc35, fc34, fc37, fc40⟩
theorem sg199_4 (l : Launch) (Z : State) (a0 : Array Value) (hw : HW a0 Z) (p1 p2 : Int32) (q3 q4 : Int64) (p5 : Int32) (q6 q7 : Int64) (p8 p9 p10 : Int32) (a11 a12 a13 a16 a17 : Addr) (k18 : ClassId) (a19 : Addr) (q20 : Int64) (k21 : ClassId) (a22 : Addr) (k23 : ClassId) (a24 : Addr) (q25 : Int64) (k26 : ClassId) (a27 : Addr) (k28 : ClassId) (w29 : Addr) (p30 : Int32) (a31 a32 : Addr) (h0 : Heap) (n0 : Nat) (OL0 : Old Z n0 h0) (pr1 : Fld Z h0 a13 s45 s48 "Z" vi0) (pr2 : Exa Z h0 a13 s45) (pr3 : Fld Z h0 a13 s45 "sets" s8 (.ref a16)) (pr4 : Asl Z h0 a16 k18 tV o12 p5 (.ref a17)) (pr5 : Fld Z h0 a17 s43 "lows" "[J" (.ref a19)) (pr6 : Arv Z h0 a19 k21 .long o1 [(.long q20)] lj0) (pr7 : Fld Z h0 a12 s43 "lows" "[J" (.ref a22)) (pr8 : Arv Z h0 a22 k23 .long o1 [(.long q6)] lj0) (pr9 : Fld Z h0 a17 s43 "highs" "[J" (.ref a24)) (pr10 : Arv Z h0 a24 k26 .long o1 [(.long q25)] lj0) (pr11 : Fld Z h0 a12 s43 "highs" "[J" (.ref a27)) (pr12 : Arv Z h0 a27 k28 .long o1 [(.long q7)] lj0) (pr13 : (own_jmin q25 q7) < (own_jmax q20 q6)) (pr14 : ¬ ((281474976710656 : Int64) < q7)) (pr15 : ¬ (q25 < q7)) (pr16 : Sta Z Z.heap s32 "EMPTY" s6 (.ref w29)) (pr17 : Exa Z h0 a17 s43) (pr18 : Fld Z h0 a13 s45 s15 "Z" (.int p30)) (pr19 : Fld Z Z.heap w29 s32 "value" s3 .null) (pr20 : Exa Z Z.heap w29 s32) (pr21 : n0 ≤ a13) (pr22 : Fld Z h0 a13 s45 s11 s5 (.ref a31)) (pr23 : Fld Z h0 a13 s45 s16 s5 (.ref a32))
    (st0 : ST Z p l e s m args below meth c T0 locs cells slots h0 n0) (hcl : cells + 4 ≤ 80) (hsl : slots + 9 ≤ 320) : SG p l e s m args below meth c T0 n0 199 (LV p1 p2 q3 q4 p5 q6 q7 p8 p9 p10 a11 a12 a13 (iv o1) (iv o0) uu) := by
  obtain ⟨hZ, hx, hy, hml, ho, hnm, hret, X0, e0, N0⟩ := st0
  have pre0 : ∀ t, SS p e below T0 m 199 (LV p1 p2 q3 q4 p5 q6 q7 p8 p9 p10 a11 a12 a13 (iv o1) (iv o0) uu) [] t → SS p e below T0 m 199 (LV p1 p2 q3 q4 p5 q6 q7 p8 p9 p10 a11 a12 a13 (iv o1) (iv o0) uu) [] t := fun _ k => k
  have pre14 : ∀ t, SS p e below T0 m 204 (LV p1 p2 q3 q4 p5 q6 q7 p8 p9 p10 a11 a12 a13 (iv o1) (iv o0) uu) [(.int (p1 &&& (128 : Int32)))] t → SS p e below T0 m 199 (LV p1 p2 q3 q4 p5 q6 q7 p8 p9 p10 a11 a12 a13 (iv o1) (iv o0) uu) [] t := by
    intro t kt
    refine pre0 _ ?_
    refine xiloadN X0 hx hy at_199 rfl ?_
    refine XS.sipush X0.here hx rfl (hb hy at_200) ?_
    refine XS.iand X0.here hx rfl (hb hy at_203) rfl ?_
    exact kt
  by_cases hf14 : (p1 &&& (128 : Int32)) = o0
  · obtain ⟨_, _, _, _, XX15, hk15, hN15, sg15⟩ := sg216_0 l Z a0 hw p1 p2 q3 q4 p5 q6 q7 p8 p9 p10 a11 a12 a13 h0 n0 OL0 pr1 pr2 ⟨hZ, hx, hy, hml, ho, hnm, hret, X0, e0, N0⟩ (by show cells + 0 ≤ 80; omega) (by show slots + 0 ≤ 320; omega)
    refine ⟨_, _, _, _, XX15, hk15, hN15, fun fs hr => pre14 _ ?_⟩
    refine XS.ifYes X0.here hx rfl (pc0 := 204) (pc' := 216) rfl (hb hy at_204) rfl ((if0 _ _).trans (teq hf14).1) (by decide) (by decide) ?_
    exact sg15 fs hr
  · obtain ⟨_, T33, L33, X33, hQ33, st33⟩ := own_cV X0 hx hZ ho hml (cw12 hw) (rm29_2 l Z a0 hw a13 p5 a12 a16 a17 k18 a19 q20 k21 a22 q6 k23 a24 q25 k26 a27 q7 k28 w29 p30 a31 a32 o0 h0 n0 OL0 pr3 pr4 pr5 pr6 pr7 pr8 pr9 pr10 pr11 pr12 pr13 pr15 pr16 pr17 pr18 pr19 pr20 pr2 pr21 pr22 pr23 pr1) e0 pr2 213 (LV p1 p2 q3 q4 p5 q6 q7 p8 p9 p10 a11 a12 a13 (iv o1) (iv o0) uu) [(.int p5), (.ref a12)] [] 0 rfl (hb hy at_213) ⟨by decide, by decide, by show cells + 4 ≤ 80; omega, by show slots + 9 ≤ 320; omega⟩
    obtain ⟨rfl, Nq33, K33, u33_0, u33_1, u33_2, u33_3, u33_4⟩ := hQ33
    have OL33 := OL0.keep K33 (allS pr21 all0)
    have N33 := Fr.app N0 Nq33
    have fc35 := (pr2.keep K33)
    obtain ⟨_, _, _, _, XX34, hk34, hN34, sg34⟩ := sg216_0 l Z a0 hw p1 p2 q3 q4 p5 q6 q7 p8 p9 p10 a11 a12 a13 T33.heap n0 OL33 u33_4 fc35 ⟨hZ, hx, hy, hml, ho, hnm, hret, X33, rfl, N33⟩ (by show cells + 4 + 0 ≤ 80; omega) (by show slots + 9 + 0 ≤ 320; omega)
    refine ⟨_, _, _, _, XX34, hk34, hN34, fun fs hr => pre14 _ ?_⟩
    refine XS.ifNo X0.here hx rfl (hb hy at_204) rfl ((if0 _ _).trans (feq hf14).1) ?_
    refine xaload X0 hx hy at_207 rfl rfl ?_
    refine xiload X0 hx hy at_209 rfl ?_
    refine xaload X0 hx hy at_211 rfl rfl ?_
    refine st33 _ ?_
    exact sg34 fs hr
theorem sg199_5 (l : Launch) (Z : State) (a0 : Array Value) (hw : HW a0 Z) (p1 p2 : Int32) (q3 q4 : Int64) (p5 : Int32) (q6 q7 : Int64) (p8 p9 p10 : Int32) (a11 a12 a13 a16 a17 : Addr) (k18 : ClassId) (a19 : Addr) (q20 : Int64) (k21 : ClassId) (a22 : Addr) (k23 : ClassId) (a24 : Addr) (q25 : Int64) (k26 : ClassId) (a27 : Addr) (k28 : ClassId) (w29 : Addr) (p30 : Int32) (a31 a32 : Addr) (h0 : Heap) (n0 : Nat) (OL0 : Old Z n0 h0) (pr1 : Fld Z h0 a13 s45 s48 "Z" vi1) (pr2 : Exa Z h0 a13 s45) (pr3 : Fld Z h0 a13 s45 "sets" s8 (.ref a16)) (pr4 : Asl Z h0 a16 k18 tV o12 p5 (.ref a17)) (pr5 : Fld Z h0 a17 s43 "lows" "[J" (.ref a19)) (pr6 : Arv Z h0 a19 k21 .long o1 [(.long q20)] lj0) (pr7 : Fld Z h0 a12 s43 "lows" "[J" (.ref a22)) (pr8 : Arv Z h0 a22 k23 .long o1 [(.long q6)] lj0) (pr9 : Fld Z h0 a17 s43 "highs" "[J" (.ref a24)) (pr10 : Arv Z h0 a24 k26 .long o1 [(.long q25)] lj0) (pr11 : Fld Z h0 a12 s43 "highs" "[J" (.ref a27)) (pr12 : Arv Z h0 a27 k28 .long o1 [(.long q7)] lj0) (pr13 : (own_jmin q25 q7) < (own_jmax q20 q6)) (pr14 : ¬ ((281474976710656 : Int64) < q7)) (pr15 : ¬ (q25 < q7)) (pr16 : Sta Z Z.heap s32 "EMPTY" s6 (.ref w29)) (pr17 : Exa Z h0 a17 s43) (pr18 : Fld Z h0 a13 s45 s15 "Z" (.int p30)) (pr19 : Fld Z Z.heap w29 s32 "value" s3 .null) (pr20 : Exa Z Z.heap w29 s32) (pr21 : n0 ≤ a13) (pr22 : Fld Z h0 a13 s45 s11 s5 (.ref a31)) (pr23 : Fld Z h0 a13 s45 s16 s5 (.ref a32))
    (st0 : ST Z p l e s m args below meth c T0 locs cells slots h0 n0) (hcl : cells + 4 ≤ 80) (hsl : slots + 9 ≤ 320) : SG p l e s m args below meth c T0 n0 199 (LV p1 p2 q3 q4 p5 q6 q7 p8 p9 p10 a11 a12 a13 (iv o1) (iv o1) uu) := by
  obtain ⟨hZ, hx, hy, hml, ho, hnm, hret, X0, e0, N0⟩ := st0
  have pre0 : ∀ t, SS p e below T0 m 199 (LV p1 p2 q3 q4 p5 q6 q7 p8 p9 p10 a11 a12 a13 (iv o1) (iv o1) uu) [] t → SS p e below T0 m 199 (LV p1 p2 q3 q4 p5 q6 q7 p8 p9 p10 a11 a12 a13 (iv o1) (iv o1) uu) [] t := fun _ k => k
  have pre14 : ∀ t, SS p e below T0 m 204 (LV p1 p2 q3 q4 p5 q6 q7 p8 p9 p10 a11 a12 a13 (iv o1) (iv o1) uu) [(.int (p1 &&& (128 : Int32)))] t → SS p e below T0 m 199 (LV p1 p2 q3 q4 p5 q6 q7 p8 p9 p10 a11 a12 a13 (iv o1) (iv o1) uu) [] t := by
    intro t kt
    refine pre0 _ ?_
    refine xiloadN X0 hx hy at_199 rfl ?_
    refine XS.sipush X0.here hx rfl (hb hy at_200) ?_
    refine XS.iand X0.here hx rfl (hb hy at_203) rfl ?_
    exact kt
  by_cases hf14 : (p1 &&& (128 : Int32)) = o0
  · obtain ⟨_, _, _, _, XX15, hk15, hN15, sg15⟩ := sg216_1 l Z a0 hw p1 p2 q3 q4 p5 q6 q7 p8 p9 p10 a11 a12 a13 h0 n0 OL0 pr1 pr2 ⟨hZ, hx, hy, hml, ho, hnm, hret, X0, e0, N0⟩ (by show cells + 0 ≤ 80; omega) (by show slots + 0 ≤ 320; omega)
    refine ⟨_, _, _, _, XX15, hk15, hN15, fun fs hr => pre14 _ ?_⟩
    refine XS.ifYes X0.here hx rfl (pc0 := 204) (pc' := 216) rfl (hb hy at_204) rfl ((if0 _ _).trans (teq hf14).1) (by decide) (by decide) ?_
    exact sg15 fs hr
  · obtain ⟨_, T33, L33, X33, hQ33, st33⟩ := own_cV X0 hx hZ ho hml (cw12 hw) (rm29_2 l Z a0 hw a13 p5 a12 a16 a17 k18 a19 q20 k21 a22 q6 k23 a24 q25 k26 a27 q7 k28 w29 p30 a31 a32 o1 h0 n0 OL0 pr3 pr4 pr5 pr6 pr7 pr8 pr9 pr10 pr11 pr12 pr13 pr15 pr16 pr17 pr18 pr19 pr20 pr2 pr21 pr22 pr23 pr1) e0 pr2 213 (LV p1 p2 q3 q4 p5 q6 q7 p8 p9 p10 a11 a12 a13 (iv o1) (iv o1) uu) [(.int p5), (.ref a12)] [] 0 rfl (hb hy at_213) ⟨by decide, by decide, by show cells + 4 ≤ 80; omega, by show slots + 9 ≤ 320; omega⟩
    obtain ⟨rfl, Nq33, K33, u33_0, u33_1, u33_2, u33_3, u33_4⟩ := hQ33
    have OL33 := OL0.keep K33 (allS pr21 all0)
    have N33 := Fr.app N0 Nq33
    have fc35 := (pr2.keep K33)
    obtain ⟨_, _, _, _, XX34, hk34, hN34, sg34⟩ := sg216_1 l Z a0 hw p1 p2 q3 q4 p5 q6 q7 p8 p9 p10 a11 a12 a13 T33.heap n0 OL33 u33_4 fc35 ⟨hZ, hx, hy, hml, ho, hnm, hret, X33, rfl, N33⟩ (by show cells + 4 + 0 ≤ 80; omega) (by show slots + 9 + 0 ≤ 320; omega)
    refine ⟨_, _, _, _, XX34, hk34, hN34, fun fs hr => pre14 _ ?_⟩
    refine XS.ifNo X0.here hx rfl (hb hy at_204) rfl ((if0 _ _).trans (feq hf14).1) ?_
    refine xaload X0 hx hy at_207 rfl rfl ?_
    refine xiload X0 hx hy at_209 rfl ?_
    refine xaload X0 hx hy at_211 rfl rfl ?_
    refine st33 _ ?_
    exact sg34 fs hr
theorem sg168_2 (l : Launch) (Z : State) (a0 : Array Value) (hw : HW a0 Z) (p1 p2 : Int32) (q3 q4 : Int64) (p5 : Int32) (q6 q7 : Int64) (p8 p9 p10 : Int32) (a11 a12 a13 a16 a17 : Addr) (k18 : ClassId) (a19 : Addr) (q20 : Int64) (k21 : ClassId) (a22 : Addr) (k23 : ClassId) (a24 : Addr) (q25 : Int64) (k26 : ClassId) (a27 : Addr) (k28 : ClassId) (w29 : Addr) (p30 : Int32) (a31 a32 : Addr) (h0 : Heap) (n0 : Nat) (OL0 : Old Z n0 h0) (pr1 : Fld Z h0 a13 s45 s48 "Z" vi0) (pr2 : Exa Z h0 a13 s45) (pr3 : Fld Z h0 a13 s45 "sets" s8 (.ref a16)) (pr4 : Asl Z h0 a16 k18 tV o12 p5 (.ref a17)) (pr5 : Fld Z h0 a17 s43 "lows" "[J" (.ref a19)) (pr6 : Arv Z h0 a19 k21 .long o1 [(.long q20)] lj0) (pr7 : Fld Z h0 a12 s43 "lows" "[J" (.ref a22)) (pr8 : Arv Z h0 a22 k23 .long o1 [(.long q6)] lj0) (pr9 : Fld Z h0 a17 s43 "highs" "[J" (.ref a24)) (pr10 : Arv Z h0 a24 k26 .long o1 [(.long q25)] lj0) (pr11 : Fld Z h0 a12 s43 "highs" "[J" (.ref a27)) (pr12 : Arv Z h0 a27 k28 .long o1 [(.long q7)] lj0) (pr13 : (own_jmin q25 q7) < (own_jmax q20 q6)) (pr14 : ¬ ((281474976710656 : Int64) < q7)) (pr15 : ¬ (q25 < q7)) (pr16 : Sta Z Z.heap s32 "EMPTY" s6 (.ref w29)) (pr17 : Exa Z h0 a17 s43) (pr18 : Fld Z h0 a13 s45 s15 "Z" (.int p30)) (pr19 : Fld Z Z.heap w29 s32 "value" s3 .null) (pr20 : Exa Z Z.heap w29 s32) (pr21 : n0 ≤ a13) (pr22 : Fld Z h0 a13 s45 s11 s5 (.ref a31)) (pr23 : Fld Z h0 a13 s45 s16 s5 (.ref a32)) (pr24 : a16 ≠ a13) (pr25 : a17 ≠ a13) (pr26 : a19 ≠ a13) (pr27 : a12 ≠ a13) (pr28 : a22 ≠ a13) (pr29 : a24 ≠ a13) (pr30 : a27 ≠ a13)
    (st0 : ST Z p l e s m args below meth c T0 locs cells slots h0 n0) (hcl : cells + 4 ≤ 80) (hsl : slots + 9 ≤ 320) : SG p l e s m args below meth c T0 n0 168 (LV p1 p2 q3 q4 p5 q6 q7 p8 p9 p10 a11 a12 a13 uu uu uu) := by
  obtain ⟨hZ, hx, hy, hml, ho, hnm, hret, X0, e0, N0⟩ := st0
  have pre0 : ∀ t, SS p e below T0 m 168 (LV p1 p2 q3 q4 p5 q6 q7 p8 p9 p10 a11 a12 a13 uu uu uu) [] t → SS p e below T0 m 168 (LV p1 p2 q3 q4 p5 q6 q7 p8 p9 p10 a11 a12 a13 uu uu uu) [] t := fun _ k => k
  obtain ⟨_, T14, L14, X14, hQ14, st14⟩ := own_cV X0 hx hZ ho hml (cw11 hw) (rm13_0 l Z a0 hw a13 h0 n0 OL0 pr1) e0 pr2 170 (LV p1 p2 q3 q4 p5 q6 q7 p8 p9 p10 a11 a12 a13 uu uu uu) [] [] 0 rfl (hb hy at_170) ⟨by decide, by decide, by show cells + 0 ≤ 80; omega, by show slots + 0 ≤ 320; omega⟩
  obtain ⟨rfl, Nq14, ec14⟩ := hQ14
  have N14 := Fr.app N0 Nq14
  have pre15 : ∀ t, SS p e below T14 m 179 (LV p1 p2 q3 q4 p5 q6 q7 p8 p9 p10 a11 a12 a13 (iv o1) uu uu) [(.int (p1 &&& (64 : Int32)))] t → SS p e below T0 m 168 (LV p1 p2 q3 q4 p5 q6 q7 p8 p9 p10 a11 a12 a13 uu uu uu) [] t := by
    intro t kt
    refine pre0 _ ?_
    refine xaload X0 hx hy at_168 rfl rfl ?_
    refine st14 _ ?_
    refine XS.istore X14.here hx rfl (hb hy at_173) rfl (l' := (LV p1 p2 q3 q4 p5 q6 q7 p8 p9 p10 a11 a12 a13 (iv o1) uu uu)) rfl ?_
    refine xiloadN X14 hx hy at_175 rfl ?_
    refine XS.bipush X14.here hx rfl (hb hy at_176) ?_
    refine XS.iand X14.here hx rfl (hb hy at_178) rfl ?_
    exact kt
  by_cases hf15 : (p1 &&& (64 : Int32)) = o0
  · obtain ⟨_, _, _, _, XX33, hk33, hN33, sg33⟩ := sg199_4 l Z a0 hw p1 p2 q3 q4 p5 q6 q7 p8 p9 p10 a11 a12 a13 a16 a17 k18 a19 q20 k21 a22 k23 a24 q25 k26 a27 k28 w29 p30 a31 a32 h0 n0 OL0 pr1 pr2 pr3 pr4 pr5 pr6 pr7 pr8 pr9 pr10 pr11 pr12 pr13 pr14 pr15 pr16 pr17 pr18 pr19 pr20 pr21 pr22 pr23 ⟨hZ, hx, hy, hml, ho, hnm, hret, X14, ec14, N14⟩ (by show cells + 0 + 4 ≤ 80; omega) (by show slots + 0 + 9 ≤ 320; omega)
    refine ⟨_, _, _, _, XX33, hk33, hN33, fun fs hr => pre15 _ ?_⟩
    refine XS.ifYes X14.here hx rfl (pc0 := 179) (pc' := 186) rfl (hb hy at_179) rfl ((if0 _ _).trans (teq hf15).1) (by decide) (by decide) ?_
    refine XS.iconst X14.here hx rfl (hb hy at_186) ?_
    refine XS.istore X14.here hx rfl (hb hy at_187) rfl (l' := (LV p1 p2 q3 q4 p5 q6 q7 p8 p9 p10 a11 a12 a13 (iv o1) (iv o0) uu)) rfl ?_
    refine xiload X14 hx hy at_189 rfl ?_
    refine XS.ifYes X14.here hx rfl (pc0 := 191) (pc' := 199) rfl (hb hy at_191) rfl ((if0 _ _).trans (teq (rfl : o0 = o0)).1) (by decide) (by decide) ?_
    exact sg33 fs hr
  · obtain ⟨_, T34, L34, X34, hQ34, st34⟩ := own_cV X14 hx hZ ho hml (cw13 hw) (rm43_0 l Z a0 hw a13 a31 p30 a32 a16 h0 n0 OL0 pr2 pr1 pr21 pr22 pr18 pr23 pr3) ec14 pr2 196 (LV p1 p2 q3 q4 p5 q6 q7 p8 p9 p10 a11 a12 a13 (iv o1) (iv o1) uu) [] [] 0 rfl (hb hy at_196) ⟨by decide, by decide, by show cells + 0 + 0 ≤ 80; omega, by show slots + 0 + 0 ≤ 320; omega⟩
    obtain ⟨rfl, Nq34, K34, u34_0, u34_1, u34_2, u34_3, u34_4⟩ := hQ34
    have OL34 := OL0.keep K34 (allS pr21 all0)
    have N34 := Fr.app N14 Nq34
    have fc36 := (pr2.keep K34)
    have fc37 := (pr4.keep K34 (ninS pr24 nin0))
    have fc38 := (pr5.keep K34 (ninS pr25 nin0))
    have fc39 := (pr6.keep K34 (ninS pr26 nin0))
    have fc40 := (pr7.keep K34 (ninS pr27 nin0))
    have fc41 := (pr8.keep K34 (ninS pr28 nin0))
    have fc42 := (pr9.keep K34 (ninS pr25 nin0))
    have fc43 := (pr10.keep K34 (ninS pr29 nin0))
    have fc44 := (pr11.keep K34 (ninS pr27 nin0))
    have fc45 := (pr12.keep K34 (ninS pr30 nin0))
    have fc46 := (pr17.keep K34)
    obtain ⟨_, _, _, _, XX35, hk35, hN35, sg35⟩ := sg199_5 l Z a0 hw p1 p2 q3 q4 p5 q6 q7 p8 p9 p10 a11 a12 a13 a16 a17 k18 a19 q20 k21 a22 k23 a24 q25 k26 a27 k28 w29 p30 a31 a32 T34.heap n0 OL34 u34_0 fc36 u34_4 fc37 fc38 fc39 fc40 fc41 fc42 fc43 fc44 fc45 pr13 pr14 pr15 pr16 fc46 u34_2 pr19 pr20 pr21 u34_1 u34_3 ⟨hZ, hx, hy, hml, ho, hnm, hret, X34, rfl, N34⟩ (by show cells + 0 + 0 + 4 ≤ 80; omega) (by show slots + 0 + 0 + 9 ≤ 320; omega)
    refine ⟨_, _, _, _, XX35, hk35, hN35, fun fs hr => pre15 _ ?_⟩
    refine XS.ifNo X14.here hx rfl (hb hy at_179) rfl ((if0 _ _).trans (feq hf15).1) ?_
    refine XS.iconst X14.here hx rfl (hb hy at_182) ?_
    refine XS.goto X14.here hx rfl (pc0 := 183) (pc' := 187) rfl (hb hy at_183) (by decide) (by decide) ?_
    refine XS.istore X14.here hx rfl (hb hy at_187) rfl (l' := (LV p1 p2 q3 q4 p5 q6 q7 p8 p9 p10 a11 a12 a13 (iv o1) (iv o1) uu)) rfl ?_
    refine xiload X14 hx hy at_189 rfl ?_
    refine XS.ifNo X14.here hx rfl (hb hy at_191) rfl ((if0 _ _).trans (feq (by decide : ¬ (o1 = o0))).1) ?_
    refine xaload X14 hx hy at_194 rfl rfl ?_
    refine st34 _ ?_
    exact sg35 fs hr
theorem sg150_2 (l : Launch) (Z : State) (a0 : Array Value) (hw : HW a0 Z) (p1 p2 : Int32) (q3 q4 : Int64) (p5 : Int32) (q6 q7 : Int64) (p8 p9 p10 : Int32) (a11 a12 a13 a15 a16 : Addr) (k17 : ClassId) (a18 : Addr) (q19 : Int64) (k20 : ClassId) (a21 : Addr) (k22 : ClassId) (a23 : Addr) (q24 : Int64) (k25 : ClassId) (a26 : Addr) (k27 : ClassId) (w28 : Addr) (p29 : Int32) (a30 a31 w33 : Addr) (k34 : ClassId) (h0 : Heap) (n0 : Nat) (OL0 : Old Z n0 h0) (pr1 : Fld Z h0 a13 s45 s48 "Z" vi0) (pr2 : Exa Z h0 a13 s45) (pr3 : Fld Z h0 a13 s45 "sets" s8 (.ref a15)) (pr4 : Asl Z h0 a15 k17 tV o12 p5 (.ref a16)) (pr5 : Fld Z h0 a16 s43 "lows" "[J" (.ref a18)) (pr6 : Arv Z h0 a18 k20 .long o1 [(.long q19)] lj0) (pr7 : Fld Z h0 a12 s43 "lows" "[J" (.ref a21)) (pr8 : Arv Z h0 a21 k22 .long o1 [(.long q6)] lj0) (pr9 : Fld Z h0 a16 s43 "highs" "[J" (.ref a23)) (pr10 : Arv Z h0 a23 k25 .long o1 [(.long q24)] lj0) (pr11 : Fld Z h0 a12 s43 "highs" "[J" (.ref a26)) (pr12 : Arv Z h0 a26 k27 .long o1 [(.long q7)] lj0) (pr13 : (own_jmin q24 q7) < (own_jmax q19 q6)) (pr14 : ¬ ((281474976710656 : Int64) < q7)) (pr15 : ¬ (q24 < q7)) (pr16 : Sta Z Z.heap s32 "EMPTY" s6 (.ref w28)) (pr17 : Exa Z h0 a16 s43) (pr18 : Fld Z h0 a13 s45 s15 "Z" (.int p29)) (pr19 : Fld Z Z.heap w28 s32 "value" s3 .null) (pr20 : Exa Z Z.heap w28 s32) (pr21 : n0 ≤ a13) (pr22 : Fld Z h0 a13 s45 s11 s5 (.ref a30)) (pr23 : Fld Z h0 a13 s45 s16 s5 (.ref a31)) (pr24 : a15 ≠ a13) (pr25 : a16 ≠ a13) (pr26 : a18 ≠ a13) (pr27 : a12 ≠ a13) (pr28 : a21 ≠ a13) (pr29 : a23 ≠ a13) (pr30 : a26 ≠ a13) (pr31 : Fld Z h0 a31 s26 s36 "I" vi0) (pr32 : Exa Z h0 a31 s27) (pr33 : n0 ≤ a31) (pr34 : Fld Z h0 a31 s27 s12 s7 (.ref w33)) (pr35 : Fld Z h0 a31 s27 "size" "I" vi0) (pr36 : Arv Z Z.heap w33 k34 (.object s20) o0 [] .null) (pr37 : Sta Z Z.heap s27 s1 s7 (.ref w33)) (pr38 : a13 ≠ a31) (pr39 : a15 ≠ a31) (pr40 : a16 ≠ a31) (pr41 : a18 ≠ a31) (pr42 : a12 ≠ a31) (pr43 : a21 ≠ a31) (pr44 : a23 ≠ a31) (pr45 : a26 ≠ a31)
    (st0 : ST Z p l e s m args below meth c T0 locs cells slots h0 n0) (hcl : cells + 6 ≤ 80) (hsl : slots + 22 ≤ 320) : SG p l e s m args below meth c T0 n0 150 (LV p1 p2 q3 q4 p5 q6 q7 p8 p9 p10 a11 a12 a13 uu uu uu) := by
  obtain ⟨hZ, hx, hy, hml, ho, hnm, hret, X0, e0, N0⟩ := st0
  have pre0 : ∀ t, SS p e below T0 m 150 (LV p1 p2 q3 q4 p5 q6 q7 p8 p9 p10 a11 a12 a13 uu uu uu) [] t → SS p e below T0 m 150 (LV p1 p2 q3 q4 p5 q6 q7 p8 p9 p10 a11 a12 a13 uu uu uu) [] t := fun _ k => k
  have pre14 : ∀ t, SS p e below T0 m 154 (LV p1 p2 q3 q4 p5 q6 q7 p8 p9 p10 a11 a12 a13 uu uu uu) [(.int (p1 &&& (16 : Int32)))] t → SS p e below T0 m 150 (LV p1 p2 q3 q4 p5 q6 q7 p8 p9 p10 a11 a12 a13 uu uu uu) [] t := by
    intro t kt
    refine pre0 _ ?_
    refine xiloadN X0 hx hy at_150 rfl ?_
    refine XS.bipush X0.here hx rfl (hb hy at_151) ?_
    refine XS.iand X0.here hx rfl (hb hy at_153) rfl ?_
    exact kt
  by_cases hf14 : (p1 &&& (16 : Int32)) = o0
  · obtain ⟨_, _, _, _, XX32, hk32, hN32, sg32⟩ := sg168_2 l Z a0 hw p1 p2 q3 q4 p5 q6 q7 p8 p9 p10 a11 a12 a13 a15 a16 k17 a18 q19 k20 a21 k22 a23 q24 k25 a26 k27 w28 p29 a30 a31 h0 n0 OL0 pr1 pr2 pr3 pr4 pr5 pr6 pr7 pr8 pr9 pr10 pr11 pr12 pr13 pr14 pr15 pr16 pr17 pr18 pr19 pr20 pr21 pr22 pr23 pr24 pr25 pr26 pr27 pr28 pr29 pr30 ⟨hZ, hx, hy, hml, ho, hnm, hret, X0, e0, N0⟩ (by show cells + 4 ≤ 80; omega) (by show slots + 9 ≤ 320; omega)
    refine ⟨_, _, _, _, XX32, hk32, hN32, fun fs hr => pre14 _ ?_⟩
    refine XS.ifYes X0.here hx rfl (pc0 := 154) (pc' := 168) rfl (hb hy at_154) rfl ((if0 _ _).trans (teq hf14).1) (by decide) (by decide) ?_
    exact sg32 fs hr
  · obtain ⟨_, T35, L35, X35, hQ35, st35⟩ := own_cV X0 hx hZ ho hml (cw21 hw) (rm40_0 l Z a0 hw a13 p8 a11 p10 a31 w33 k34 h0 n0 OL0 pr23 pr31 pr32 pr33 pr34 pr35 pr36 pr37) e0 pr2 165 (LV p1 p2 q3 q4 p5 q6 q7 p8 p9 p10 a11 a12 a13 uu uu uu) [(.int p8), (.ref a11), (.int p10)] [] 0 rfl (hb hy at_165) ⟨by decide, by decide, by show cells + 2 ≤ 80; omega, by show slots + 13 ≤ 320; omega⟩
    obtain ⟨b35_0, b35_1, kx35_0, rfl, Nq35, K35, u35_0, u35_1, u35_2, u35_3, u35_4, u35_5, u35_6, u35_7, u35_8, u35_9, u35_10, u35_11, u35_12⟩ := hQ35
    have OL35 := OL0.keep K35 (allS pr33 all0)
    have N35 := Fr.app N0 Nq35
    have fc37 := (pr1.keep K35 (ninS pr38 nin0))
    have fc38 := (pr2.keep K35)
    have fc39 := (pr3.keep K35 (ninS pr38 nin0))
    have fc40 := (pr4.keep K35 (ninS pr39 nin0))
    have fc41 := (pr5.keep K35 (ninS pr40 nin0))
    have fc42 := (pr6.keep K35 (ninS pr41 nin0))
    have fc43 := (pr7.keep K35 (ninS pr42 nin0))
    have fc44 := (pr8.keep K35 (ninS pr43 nin0))
    have fc45 := (pr9.keep K35 (ninS pr40 nin0))
    have fc46 := (pr10.keep K35 (ninS pr44 nin0))
    have fc47 := (pr11.keep K35 (ninS pr42 nin0))
    have fc48 := (pr12.keep K35 (ninS pr45 nin0))
    have fc49 := (pr17.keep K35)
    have fc50 := (pr18.keep K35 (ninS pr38 nin0))
    have fc51 := (pr22.keep K35 (ninS pr38 nin0))
    have fc52 := (pr23.keep K35 (ninS pr38 nin0))
    obtain ⟨_, _, _, _, XX36, hk36, hN36, sg36⟩ := sg168_2 l Z a0 hw p1 p2 q3 q4 p5 q6 q7 p8 p9 p10 a11 a12 a13 a15 a16 k17 a18 q19 k20 a21 k22 a23 q24 k25 a26 k27 w28 p29 a30 a31 T35.heap n0 OL35 fc37 fc38 fc39 fc40 fc41 fc42 fc43 fc44 fc45 fc46 fc47 fc48 pr13 pr14 pr15 pr16 fc49 fc50 pr19 pr20 pr21 fc51 fc52 pr24 pr25 pr26 pr27 pr28 pr29 pr30 ⟨hZ, hx, hy, hml, ho, hnm, hret, X35, rfl, N35⟩ (by show cells + 2 + 4 ≤ 80; omega) (by show slots + 13 + 9 ≤ 320; omega)
    refine ⟨_, _, _, _, XX36, hk36, hN36, fun fs hr => pre14 _ ?_⟩
    refine XS.ifNo X0.here hx rfl (hb hy at_154) rfl ((if0 _ _).trans (feq hf14).1) ?_
    refine xaload X0 hx hy at_157 rfl rfl ?_
    refine xiload X0 hx hy at_159 rfl ?_
    refine xaload X0 hx hy at_161 rfl rfl ?_
    refine xiload X0 hx hy at_163 rfl ?_
    refine st35 _ ?_
    exact sg36 fs hr
theorem sg136_2 (l : Launch) (Z : State) (a0 : Array Value) (hw : HW a0 Z) (p1 p2 : Int32) (q3 q4 : Int64) (p5 : Int32) (q6 q7 : Int64) (p8 p9 p10 : Int32) (a11 a12 a13 a15 a16 : Addr) (k17 : ClassId) (a18 : Addr) (q19 : Int64) (k20 : ClassId) (a21 : Addr) (k22 : ClassId) (a23 : Addr) (q24 : Int64) (k25 : ClassId) (a26 : Addr) (k27 : ClassId) (w28 : Addr) (p29 : Int32) (a30 a31 w32 : Addr) (k33 : ClassId) (h0 : Heap) (n0 : Nat) (OL0 : Old Z n0 h0) (pr1 : Fld Z h0 a13 s45 s48 "Z" vi0) (pr2 : Exa Z h0 a13 s45) (pr3 : Fld Z h0 a13 s45 "sets" s8 (.ref a15)) (pr4 : Asl Z h0 a15 k17 tV o12 p5 (.ref a16)) (pr5 : Fld Z h0 a16 s43 "lows" "[J" (.ref a18)) (pr6 : Arv Z h0 a18 k20 .long o1 [(.long q19)] lj0) (pr7 : Fld Z h0 a12 s43 "lows" "[J" (.ref a21)) (pr8 : Arv Z h0 a21 k22 .long o1 [(.long q6)] lj0) (pr9 : Fld Z h0 a16 s43 "highs" "[J" (.ref a23)) (pr10 : Arv Z h0 a23 k25 .long o1 [(.long q24)] lj0) (pr11 : Fld Z h0 a12 s43 "highs" "[J" (.ref a26)) (pr12 : Arv Z h0 a26 k27 .long o1 [(.long q7)] lj0) (pr13 : (own_jmin q24 q7) < (own_jmax q19 q6)) (pr14 : ¬ ((281474976710656 : Int64) < q7)) (pr15 : ¬ (q24 < q7)) (pr16 : Sta Z Z.heap s32 "EMPTY" s6 (.ref w28)) (pr17 : Exa Z h0 a16 s43) (pr18 : Fld Z h0 a13 s45 s15 "Z" (.int p29)) (pr19 : Fld Z Z.heap w28 s32 "value" s3 .null) (pr20 : Exa Z Z.heap w28 s32) (pr21 : n0 ≤ a13) (pr22 : Fld Z h0 a13 s45 s11 s5 (.ref a30)) (pr23 : Fld Z h0 a13 s45 s16 s5 (.ref a31)) (pr24 : a15 ≠ a13) (pr25 : a16 ≠ a13) (pr26 : a18 ≠ a13) (pr27 : a12 ≠ a13) (pr28 : a21 ≠ a13) (pr29 : a23 ≠ a13) (pr30 : a26 ≠ a13) (pr31 : Fld Z h0 a31 s26 s36 "I" vi0) (pr32 : Exa Z h0 a31 s27) (pr33 : n0 ≤ a31) (pr34 : Fld Z h0 a31 s27 s12 s7 (.ref w32)) (pr35 : Fld Z h0 a31 s27 "size" "I" vi0) (pr36 : Arv Z Z.heap w32 k33 (.object s20) o0 [] .null) (pr37 : Sta Z Z.heap s27 s1 s7 (.ref w32)) (pr38 : a13 ≠ a31) (pr39 : a15 ≠ a31) (pr40 : a16 ≠ a31) (pr41 : a18 ≠ a31) (pr42 : a12 ≠ a31) (pr43 : a21 ≠ a31) (pr44 : a23 ≠ a31) (pr45 : a26 ≠ a31) (pr46 : Fld Z h0 a30 s26 s36 "I" vi0) (pr47 : Exa Z h0 a30 s27) (pr48 : n0 ≤ a30) (pr49 : Fld Z h0 a30 s27 s12 s7 (.ref w32)) (pr50 : Fld Z h0 a30 s27 "size" "I" vi0) (pr51 : Exa Z h0 a12 s43) (pr52 : a13 ≠ a30) (pr53 : a15 ≠ a30) (pr54 : a16 ≠ a30) (pr55 : a18 ≠ a30) (pr56 : a12 ≠ a30) (pr57 : a21 ≠ a30) (pr58 : a23 ≠ a30) (pr59 : a26 ≠ a30) (pr60 : a31 ≠ a30)
    (st0 : ST Z p l e s m args below meth c T0 locs cells slots h0 n0) (hcl : cells + 7 ≤ 80) (hsl : slots + 32 ≤ 320) : SG p l e s m args below meth c T0 n0 136 (LV p1 p2 q3 q4 p5 q6 q7 p8 p9 p10 a11 a12 a13 uu uu uu) := by
  obtain ⟨hZ, hx, hy, hml, ho, hnm, hret, X0, e0, N0⟩ := st0
  have pre0 : ∀ t, SS p e below T0 m 136 (LV p1 p2 q3 q4 p5 q6 q7 p8 p9 p10 a11 a12 a13 uu uu uu) [] t → SS p e below T0 m 136 (LV p1 p2 q3 q4 p5 q6 q7 p8 p9 p10 a11 a12 a13 uu uu uu) [] t := fun _ k => k
  have pre14 : ∀ t, SS p e below T0 m 140 (LV p1 p2 q3 q4 p5 q6 q7 p8 p9 p10 a11 a12 a13 uu uu uu) [(.int (p1 &&& (8 : Int32)))] t → SS p e below T0 m 136 (LV p1 p2 q3 q4 p5 q6 q7 p8 p9 p10 a11 a12 a13 uu uu uu) [] t := by
    intro t kt
    refine pre0 _ ?_
    refine xiloadN X0 hx hy at_136 rfl ?_
    refine XS.bipush X0.here hx rfl (hb hy at_137) ?_
    refine XS.iand X0.here hx rfl (hb hy at_139) rfl ?_
    exact kt
  by_cases hf14 : (p1 &&& (8 : Int32)) = o0
  · obtain ⟨_, _, _, _, XX34, hk34, hN34, sg34⟩ := sg150_2 l Z a0 hw p1 p2 q3 q4 p5 q6 q7 p8 p9 p10 a11 a12 a13 a15 a16 k17 a18 q19 k20 a21 k22 a23 q24 k25 a26 k27 w28 p29 a30 a31 w32 k33 h0 n0 OL0 pr1 pr2 pr3 pr4 pr5 pr6 pr7 pr8 pr9 pr10 pr11 pr12 pr13 pr14 pr15 pr16 pr17 pr18 pr19 pr20 pr21 pr22 pr23 pr24 pr25 pr26 pr27 pr28 pr29 pr30 pr31 pr32 pr33 pr34 pr35 pr36 pr37 pr38 pr39 pr40 pr41 pr42 pr43 pr44 pr45 ⟨hZ, hx, hy, hml, ho, hnm, hret, X0, e0, N0⟩ (by show cells + 6 ≤ 80; omega) (by show slots + 22 ≤ 320; omega)
    refine ⟨_, _, _, _, XX34, hk34, hN34, fun fs hr => pre14 _ ?_⟩
    refine XS.ifYes X0.here hx rfl (pc0 := 140) (pc' := 150) rfl (hb hy at_140) rfl ((if0 _ _).trans (teq hf14).1) (by decide) (by decide) ?_
    exact sg34 fs hr
  · obtain ⟨_, T35, L35, X35, hQ35, st35⟩ := own_cV X0 hx hZ ho hml (cw22 hw) (rm30_0 l Z a0 hw a13 a12 a30 w32 k33 h0 n0 OL0 pr22 pr46 pr47 pr48 pr49 pr50 pr36 pr37 pr51) e0 pr2 147 (LV p1 p2 q3 q4 p5 q6 q7 p8 p9 p10 a11 a12 a13 uu uu uu) [(.ref a12)] [] 0 rfl (hb hy at_147) ⟨by decide, by decide, by show cells + 1 ≤ 80; omega, by show slots + 10 ≤ 320; omega⟩
    obtain ⟨b35_0, kx35_0, rfl, Nq35, K35, u35_0, u35_1, u35_2, u35_3, u35_4, u35_5, u35_6⟩ := hQ35
    have OL35 := OL0.keep K35 (allS pr48 all0)
    have N35 := Fr.app N0 Nq35
    have fc37 := (pr1.keep K35 (ninS pr52 nin0))
    have fc38 := (pr2.keep K35)
    have fc39 := (pr3.keep K35 (ninS pr52 nin0))
    have fc40 := (pr4.keep K35 (ninS pr53 nin0))
    have fc41 := (pr5.keep K35 (ninS pr54 nin0))
    have fc42 := (pr6.keep K35 (ninS pr55 nin0))
    have fc43 := (pr7.keep K35 (ninS pr56 nin0))
    have fc44 := (pr8.keep K35 (ninS pr57 nin0))
    have fc45 := (pr9.keep K35 (ninS pr54 nin0))
    have fc46 := (pr10.keep K35 (ninS pr58 nin0))
    have fc47 := (pr11.keep K35 (ninS pr56 nin0))
    have fc48 := (pr12.keep K35 (ninS pr59 nin0))
    have fc49 := (pr17.keep K35)
    have fc50 := (pr18.keep K35 (ninS pr52 nin0))
    have fc51 := (pr22.keep K35 (ninS pr52 nin0))
    have fc52 := (pr23.keep K35 (ninS pr52 nin0))
    have fc53 := (pr31.keep K35 (ninS pr60 nin0))
    have fc54 := (pr32.keep K35)
    have fc55 := (pr34.keep K35 (ninS pr60 nin0))
    have fc56 := (pr35.keep K35 (ninS pr60 nin0))
    obtain ⟨_, _, _, _, XX36, hk36, hN36, sg36⟩ := sg150_2 l Z a0 hw p1 p2 q3 q4 p5 q6 q7 p8 p9 p10 a11 a12 a13 a15 a16 k17 a18 q19 k20 a21 k22 a23 q24 k25 a26 k27 w28 p29 a30 a31 w32 k33 T35.heap n0 OL35 fc37 fc38 fc39 fc40 fc41 fc42 fc43 fc44 fc45 fc46 fc47 fc48 pr13 pr14 pr15 pr16 fc49 fc50 pr19 pr20 pr21 fc51 fc52 pr24 pr25 pr26 pr27 pr28 pr29 pr30 fc53 fc54 pr33 fc55 fc56 pr36 pr37 pr38 pr39 pr40 pr41 pr42 pr43 pr44 pr45 ⟨hZ, hx, hy, hml, ho, hnm, hret, X35, rfl, N35⟩ (by show cells + 1 + 6 ≤ 80; omega) (by show slots + 10 + 22 ≤ 320; omega)
    refine ⟨_, _, _, _, XX36, hk36, hN36, fun fs hr => pre14 _ ?_⟩
    refine XS.ifNo X0.here hx rfl (hb hy at_140) rfl ((if0 _ _).trans (feq hf14).1) ?_
    refine xaload X0 hx hy at_143 rfl rfl ?_
    refine xaload X0 hx hy at_145 rfl rfl ?_
    refine st35 _ ?_
    exact sg36 fs hr
theorem sg125_2 (l : Launch) (Z : State) (a0 : Array Value) (hw : HW a0 Z) (p1 p2 : Int32) (q3 q4 : Int64) (p5 : Int32) (q6 q7 : Int64) (p8 p9 p10 : Int32) (a11 a12 a13 a15 a16 : Addr) (k17 : ClassId) (a18 : Addr) (q19 : Int64) (k20 : ClassId) (a21 : Addr) (k22 : ClassId) (a23 : Addr) (q24 : Int64) (k25 : ClassId) (a26 : Addr) (k27 : ClassId) (w28 : Addr) (p29 : Int32) (a30 a31 w32 : Addr) (k33 : ClassId) (h0 : Heap) (n0 : Nat) (OL0 : Old Z n0 h0) (pr1 : Fld Z h0 a13 s45 s48 "Z" vi0) (pr2 : Exa Z h0 a13 s45) (pr3 : Fld Z h0 a13 s45 "sets" s8 (.ref a15)) (pr4 : Asl Z h0 a15 k17 tV o12 p5 (.ref a16)) (pr5 : Fld Z h0 a16 s43 "lows" "[J" (.ref a18)) (pr6 : Arv Z h0 a18 k20 .long o1 [(.long q19)] lj0) (pr7 : Fld Z h0 a12 s43 "lows" "[J" (.ref a21)) (pr8 : Arv Z h0 a21 k22 .long o1 [(.long q6)] lj0) (pr9 : Fld Z h0 a16 s43 "highs" "[J" (.ref a23)) (pr10 : Arv Z h0 a23 k25 .long o1 [(.long q24)] lj0) (pr11 : Fld Z h0 a12 s43 "highs" "[J" (.ref a26)) (pr12 : Arv Z h0 a26 k27 .long o1 [(.long q7)] lj0) (pr13 : (own_jmin q24 q7) < (own_jmax q19 q6)) (pr14 : ¬ ((281474976710656 : Int64) < q7)) (pr15 : ¬ (q24 < q7)) (pr16 : Sta Z Z.heap s32 "EMPTY" s6 (.ref w28)) (pr17 : Exa Z h0 a16 s43) (pr18 : Fld Z h0 a13 s45 s15 "Z" (.int p29)) (pr19 : Fld Z Z.heap w28 s32 "value" s3 .null) (pr20 : Exa Z Z.heap w28 s32) (pr21 : n0 ≤ a13) (pr22 : Fld Z h0 a13 s45 s11 s5 (.ref a30)) (pr23 : Fld Z h0 a13 s45 s16 s5 (.ref a31)) (pr24 : a15 ≠ a13) (pr25 : a16 ≠ a13) (pr26 : a18 ≠ a13) (pr27 : a12 ≠ a13) (pr28 : a21 ≠ a13) (pr29 : a23 ≠ a13) (pr30 : a26 ≠ a13) (pr31 : Fld Z h0 a31 s26 s36 "I" vi0) (pr32 : Exa Z h0 a31 s27) (pr33 : n0 ≤ a31) (pr34 : Fld Z h0 a31 s27 s12 s7 (.ref w32)) (pr35 : Fld Z h0 a31 s27 "size" "I" vi0) (pr36 : Arv Z Z.heap w32 k33 (.object s20) o0 [] .null) (pr37 : Sta Z Z.heap s27 s1 s7 (.ref w32)) (pr38 : a13 ≠ a31) (pr39 : a15 ≠ a31) (pr40 : a16 ≠ a31) (pr41 : a18 ≠ a31) (pr42 : a12 ≠ a31) (pr43 : a21 ≠ a31) (pr44 : a23 ≠ a31) (pr45 : a26 ≠ a31) (pr46 : Fld Z h0 a30 s26 s36 "I" vi0) (pr47 : Exa Z h0 a30 s27) (pr48 : n0 ≤ a30) (pr49 : Fld Z h0 a30 s27 s12 s7 (.ref w32)) (pr50 : Fld Z h0 a30 s27 "size" "I" vi0) (pr51 : Exa Z h0 a12 s43) (pr52 : a13 ≠ a30) (pr53 : a15 ≠ a30) (pr54 : a16 ≠ a30) (pr55 : a18 ≠ a30) (pr56 : a12 ≠ a30) (pr57 : a21 ≠ a30) (pr58 : a23 ≠ a30) (pr59 : a26 ≠ a30) (pr60 : a31 ≠ a30) (pr61 : a31 ≠ a13) (pr62 : a30 ≠ a13)
    (st0 : ST Z p l e s m args below meth c T0 locs cells slots h0 n0) (hcl : cells + 7 ≤ 80) (hsl : slots + 32 ≤ 320) : SG p l e s m args below meth c T0 n0 125 (LV p1 p2 q3 q4 p5 q6 q7 p8 p9 p10 a11 a12 a13 uu uu uu) := by
  obtain ⟨hZ, hx, hy, hml, ho, hnm, hret, X0, e0, N0⟩ := st0
  have pre0 : ∀ t, SS p e below T0 m 125 (LV p1 p2 q3 q4 p5 q6 q7 p8 p9 p10 a11 a12 a13 uu uu uu) [] t → SS p e below T0 m 125 (LV p1 p2 q3 q4 p5 q6 q7 p8 p9 p10 a11 a12 a13 uu uu uu) [] t := fun _ k => k
  have pre14 : ∀ t, SS p e below T0 m 128 (LV p1 p2 q3 q4 p5 q6 q7 p8 p9 p10 a11 a12 a13 uu uu uu) [(.int (p1 &&& (4 : Int32)))] t → SS p e below T0 m 125 (LV p1 p2 q3 q4 p5 q6 q7 p8 p9 p10 a11 a12 a13 uu uu uu) [] t := by
    intro t kt
    refine pre0 _ ?_
    refine xiloadN X0 hx hy at_125 rfl ?_
    refine XS.iconst X0.here hx rfl (hb hy at_126) ?_
    refine XS.iand X0.here hx rfl (hb hy at_127) rfl ?_
    exact kt
  by_cases hf14 : (p1 &&& (4 : Int32)) = o0
  · obtain ⟨_, _, _, _, XX34, hk34, hN34, sg34⟩ := sg136_2 l Z a0 hw p1 p2 q3 q4 p5 q6 q7 p8 p9 p10 a11 a12 a13 a15 a16 k17 a18 q19 k20 a21 k22 a23 q24 k25 a26 k27 w28 p29 a30 a31 w32 k33 h0 n0 OL0 pr1 pr2 pr3 pr4 pr5 pr6 pr7 pr8 pr9 pr10 pr11 pr12 pr13 pr14 pr15 pr16 pr17 pr18 pr19 pr20 pr21 pr22 pr23 pr24 pr25 pr26 pr27 pr28 pr29 pr30 pr31 pr32 pr33 pr34 pr35 pr36 pr37 pr38 pr39 pr40 pr41 pr42 pr43 pr44 pr45 pr46 pr47 pr48 pr49 pr50 pr51 pr52 pr53 pr54 pr55 pr56 pr57 pr58 pr59 pr60 ⟨hZ, hx, hy, hml, ho, hnm, hret, X0, e0, N0⟩ (by show cells + 7 ≤ 80; omega) (by show slots + 32 ≤ 320; omega)
    refine ⟨_, _, _, _, XX34, hk34, hN34, fun fs hr => pre14 _ ?_⟩
    refine XS.ifYes X0.here hx rfl (pc0 := 128) (pc' := 136) rfl (hb hy at_128) rfl ((if0 _ _).trans (teq hf14).1) (by decide) (by decide) ?_
    exact sg34 fs hr
  · obtain ⟨_, T35, L35, X35, hQ35, st35⟩ := own_cV X0 hx hZ ho hml (cw23 hw) (rm44_0 l Z a0 hw a13 p29 a30 a31 a15 h0 n0 OL0 pr2 pr18 pr21 pr22 pr23 pr3 pr1) e0 pr2 133 (LV p1 p2 q3 q4 p5 q6 q7 p8 p9 p10 a11 a12 a13 uu uu uu) [] [] 0 rfl (hb hy at_133) ⟨by decide, by decide, by show cells + 0 ≤ 80; omega, by show slots + 0 ≤ 320; omega⟩
    obtain ⟨rfl, Nq35, K35, u35_0, u35_1, u35_2, u35_3, u35_4⟩ := hQ35
    have OL35 := OL0.keep K35 (allS pr21 all0)
    have N35 := Fr.app N0 Nq35
    have fc37 := (pr2.keep K35)
    have fc38 := (pr4.keep K35 (ninS pr24 nin0))
    have fc39 := (pr5.keep K35 (ninS pr25 nin0))
    have fc40 := (pr6.keep K35 (ninS pr26 nin0))
    have fc41 := (pr7.keep K35 (ninS pr27 nin0))
    have fc42 := (pr8.keep K35 (ninS pr28 nin0))
    have fc43 := (pr9.keep K35 (ninS pr25 nin0))
    have fc44 := (pr10.keep K35 (ninS pr29 nin0))
    have fc45 := (pr11.keep K35 (ninS pr27 nin0))
    have fc46 := (pr12.keep K35 (ninS pr30 nin0))
    have fc47 := (pr17.keep K35)
    have fc48 := (pr31.keep K35 (ninS pr61 nin0))
    have fc49 := (pr32.keep K35)
    have fc50 := (pr34.keep K35 (ninS pr61 nin0))
    have fc51 := (pr35.keep K35 (ninS pr61 nin0))
    have fc52 := (pr46.keep K35 (ninS pr62 nin0))
    have fc53 := (pr47.keep K35)
    have fc54 := (pr49.keep K35 (ninS pr62 nin0))
    have fc55 := (pr50.keep K35 (ninS pr62 nin0))
    have fc56 := (pr51.keep K35)
    obtain ⟨_, _, _, _, XX36, hk36, hN36, sg36⟩ := sg136_2 l Z a0 hw p1 p2 q3 q4 p5 q6 q7 p8 p9 p10 a11 a12 a13 a15 a16 k17 a18 q19 k20 a21 k22 a23 q24 k25 a26 k27 w28 o1 a30 a31 w32 k33 T35.heap n0 OL35 u35_4 fc37 u35_3 fc38 fc39 fc40 fc41 fc42 fc43 fc44 fc45 fc46 pr13 pr14 pr15 pr16 fc47 u35_0 pr19 pr20 pr21 u35_1 u35_2 pr24 pr25 pr26 pr27 pr28 pr29 pr30 fc48 fc49 pr33 fc50 fc51 pr36 pr37 pr38 pr39 pr40 pr41 pr42 pr43 pr44 pr45 fc52 fc53 pr48 fc54 fc55 fc56 pr52 pr53 pr54 pr55 pr56 pr57 pr58 pr59 pr60 ⟨hZ, hx, hy, hml, ho, hnm, hret, X35, rfl, N35⟩ (by show cells + 0 + 7 ≤ 80; omega) (by show slots + 0 + 32 ≤ 320; omega)
    refine ⟨_, _, _, _, XX36, hk36, hN36, fun fs hr => pre14 _ ?_⟩
    refine XS.ifNo X0.here hx rfl (hb hy at_128) rfl ((if0 _ _).trans (feq hf14).1) ?_
    refine xaload X0 hx hy at_131 rfl rfl ?_
    refine st35 _ ?_
    exact sg36 fs hr
theorem rm17_3 (l : Launch) (Z : State) (a0 : Array Value) (hw : HW a0 Z) (a1 a2 a4 : Addr) (q7 : Int64) (k8 : ClassId) (a11 : Addr) (q14 : Int64) (k15 : ClassId) (a33 : Addr) (q36 : Int64) (k37 : ClassId) (a45 : Addr) (q48 : Int64) (k49 : ClassId) (h0 : Heap) (n0 : Nat) (OL0 : Old Z n0 h0) (pr1 : Fld Z h0 a1 s43 "lows" "[J" (.ref a4)) (pr2 : Arv Z h0 a4 k8 .long o1 [(.long q7)] lj0) (pr3 : Fld Z h0 a2 s43 "lows" "[J" (.ref a11)) (pr4 : Arv Z h0 a11 k15 .long o1 [(.long q14)] lj0) (pr5 : Fld Z h0 a2 s43 "highs" "[J" (.ref a33)) (pr6 : Arv Z h0 a33 k37 .long o1 [(.long q36)] lj0) (pr7 : ¬ (q36 < q7)) (pr8 : Fld Z h0 a1 s43 "highs" "[J" (.ref a45)) (pr9 : Arv Z h0 a45 k49 .long o1 [(.long q48)] lj0) (pr10 : ¬ (q48 < q14)) (pr11 : ¬ (q48 < q7)) (pr12 : ¬ ((q14 - (1 : Int64)) < q7)) (pr13 : q48 < (q36 + (1 : Int64))) :
    MF l Z mn17 prog_63_method_5_code 8 (some (.object s32)) ⟨4, 7, 12, 50⟩ #[(.ref a1), (.ref a2)] h0 (fun v h L => ∃ b91_0 b91_1 b91_2 b91_3 : Addr, ∃ kx91_0 : ClassId, ∃ kx91_1 : ClassId, v = some (.ref b91_0) ∧ Fr n0 L ∧ Keep h0 h [] ∧ h0.size ≤ b91_0 ∧ h0.size ≤ b91_1 ∧ h0.size ≤ b91_2 ∧ h0.size ≤ b91_3 ∧ b91_0 ≠ b91_1 ∧ b91_0 ≠ b91_2 ∧ b91_0 ≠ b91_3 ∧ b91_1 ≠ b91_2 ∧ b91_1 ≠ b91_3 ∧ b91_2 ≠ b91_3 ∧ Exa Z h b91_0 s32 ∧ Fld Z h b91_0 s32 "value" s3 (.ref b91_1) ∧ Exa Z h b91_1 s43 ∧ Fld Z h b91_1 s43 "lows" "[J" (.ref b91_2) ∧ Fld Z h b91_1 s43 "highs" "[J" (.ref b91_3) ∧ Arv Z h b91_2 kx91_0 .long o1 [(.long q7)] lj0 ∧ Exa Z h b91_2 "[J" ∧ Arv Z h b91_3 kx91_1 .long o1 [(.long (q14 - (1 : Int64)))] lj0 ∧ Exa Z h b91_3 "[J") := by
  refine own_start (plainFor_of_name pn_2) (fun m => (ef_17_35 m a1 a2)) ?_
  intro p e s m below meth c s₁ hZ hx hy hml ho hnm hret X0 e0
  have N0 := Fr.nil n0
  obtain ⟨T3, h3, X3, e3, E3, A3, D3, -, st3⟩ := newO X0 hx hZ ho (wd136 hw) (wd137 hw) (wd138 hw) e0 (g := (mkF m 0 #[rv a1, rv a2, uu, uu, uu, uu, uu, uu] [])) rfl (hb hy d17_0) (by decide) (by decide)
  obtain ⟨b3, g3⟩ : ∃ z, z = h0.size := ⟨_, rfl⟩
  rw [← g3] at A3 D3 st3
  have g_b3 : n0 ≤ b3 := (Nat.le_trans (Nat.le_trans (Nat.le_of_eq OL0.1.symm) OL0.2.1) (Nat.le_of_eq g3.symm))
  have sz_b3 : h0.size ≤ b3 := (Nat.le_trans (Keep.refl h0 []).1 (Nat.le_of_eq g3.symm))
  have KK3 : Keep h0 h3 [] := (Keep.refl h0 []).ext E3
  have OL3 := OL0.ext E3
  have F_lows_b3 : Fld Z h3 b3 s44 "lows" "[J" .null := D3 (Or.inr (wd144 hw)) (ty := (.array .long)) (by decide)
  have F_highs_b3 : Fld Z h3 b3 s44 "highs" "[J" .null := D3 (Or.inr (wd146 hw)) (ty := (.array .long)) (by decide)
  have F_count_b3 : Fld Z h3 b3 s44 "count" "I" vi0 := D3 (Or.inl (wd153 hw)) (ty := .int) (by decide)
  have fc5 := (pr1.ext E3)
  obtain ⟨T6, X6, e6, st6⟩ := gF X3 hx hZ ho (wd41 hw) Via.refl e3 fc5 5 #[rv a1, rv a2, uu, uu, uu, uu, uu, uu] [(.ref b3), (.ref b3)] (hb hy d17_5)
  have fc9 := (pr2.ext E3)
  obtain ⟨cl10, Ar10, -, Sz10, Nn10, -, -⟩ := id fc9
  have fc12 := (pr3.ext E3)
  obtain ⟨T13, X13, e13, st13⟩ := gF X6 hx hZ ho (wd41 hw) Via.refl e6 fc12 10 #[rv a1, rv a2, uu, uu, uu, uu, uu, uu] [vi1, (.ref b3), (.ref b3)] (hb hy d17_10)
  have fc16 := (pr4.ext E3)
  obtain ⟨cl17, Ar17, -, Sz17, Nn17, -, -⟩ := id fc16
  obtain ⟨_, T18, L18, X18, hQ18, st18⟩ := own_cN X13 hx hZ ho hml (cw27 hw) (rm18_0 l Z a0 hw b3 h3 n0 OL3 A3 F_lows_b3 g_b3 F_highs_b3 F_count_b3) e13 b3 15 #[rv a1, rv a2, uu, uu, uu, uu, uu, uu] [(.int o2)] [(.ref b3)] 1 rfl (hb hy d17_15) (by decide)
  obtain ⟨b18_0, b18_1, kx18_0, kx18_1, rfl, Nq18, K18, u18_0, u18_1, u18_2, u18_3, u18_4, u18_5, u18_6, u18_7, u18_8, u18_9⟩ := hQ18
  have KK18 : Keep h0 T18.heap [] := KK3.trans K18 (allS (Or.inr sz_b3) all0)
  have OL18 := OL3.keep K18 (allS g_b3 all0)
  have g_b18_0 : n0 ≤ b18_0 := Nat.le_trans (Nat.le_trans (Nat.le_of_eq OL3.1.symm) OL3.2.1) u18_0
  have sz_b18_0 : h0.size ≤ b18_0 := Nat.le_trans KK3.1 u18_0
  have g_b18_1 : n0 ≤ b18_1 := Nat.le_trans (Nat.le_trans (Nat.le_of_eq OL3.1.symm) OL3.2.1) u18_1
  have sz_b18_1 : h0.size ≤ b18_1 := Nat.le_trans KK3.1 u18_1
  have N18 := Fr.app N0 Nq18
  have nz19 := nl pr1.lt sz_b3
  have fc20 := (fc5.keep K18 (ninS nz19 nin0))
  obtain ⟨T21, X21, e21, st21⟩ := gF X18 hx hZ ho (wd41 hw) Via.refl rfl fc20 27 #[rv a1, rv a2, rv b3, iv o0, iv o0, uu, uu, uu] [vi0] (hb hy d17_27)
  have nz22 := nl pr2.lt sz_b3
  have fc23 := (fc9.keep K18 (ninS nz22 nin0))
  obtain ⟨cl24, Ar24, -, Sz24, Nn24, -, -⟩ := id fc23
  obtain ⟨T25, X25, e25, st25⟩ := gF X21 hx hZ ho (wd41 hw) Via.refl e21 fc20 35 #[rv a1, rv a2, rv b3, iv o0, iv o0, uu, uu, uu] [] (hb hy d17_35)
  have nz27 := nl pr3.lt sz_b3
  have fc28 := (fc12.keep K18 (ninS nz27 nin0))
  obtain ⟨T29, X29, e29, st29⟩ := gF X25 hx hZ ho (wd41 hw) Via.refl e25 fc28 45 #[rv a1, rv a2, rv b3, iv o0, iv o0, jv q7, sc, uu] [vi0] (hb hy d17_45)
  have nz30 := nl pr4.lt sz_b3
  have fc31 := (fc16.keep K18 (ninS nz30 nin0))
  obtain ⟨cl32, Ar32, -, Sz32, Nn32, -, -⟩ := id fc31
  have fc34 := ((pr5.ext E3).keep K18 (ninS nz27 nin0))
  obtain ⟨T35, X35, e35, st35⟩ := gF X29 hx hZ ho (wd43 hw) Via.refl e29 fc34 53 #[rv a1, rv a2, rv b3, iv o0, iv o0, jv q7, sc, uu] [] (hb hy d17_53)
  have nz38 := nl pr6.lt sz_b3
  have fc39 := ((pr6.ext E3).keep K18 (ninS nz38 nin0))
  obtain ⟨T41, X41, e41, st41⟩ := gF X35 hx hZ ho (wd41 hw) Via.refl e35 fc28 76 #[rv a1, rv a2, rv b3, iv o0, iv o0, jv q7, sc, iv o0] [vi0] (hb hy d17_76)
  obtain ⟨cl42, Ar42, -, Sz42, Nn42, -, -⟩ := id fc31
  obtain ⟨T43, X43, e43, st43⟩ := gF X41 hx hZ ho (wd41 hw) Via.refl e41 fc28 84 #[rv a1, rv a2, rv b3, iv o0, iv o0, jv q7, sc, iv o0] [] (hb hy d17_84)
  have fc46 := ((pr8.ext E3).keep K18 (ninS nz19 nin0))
  obtain ⟨T47, X47, e47, st47⟩ := gF X43 hx hZ ho (wd43 hw) Via.refl e43 fc46 91 #[rv a1, rv a2, rv b3, iv o0, iv o0, jv q7, sc, iv o0] [(.long q14)] (hb hy d17_91)
  have nz50 := nl pr9.lt sz_b3
  have fc51 := ((pr9.ext E3).keep K18 (ninS nz50 nin0))
  obtain ⟨T53, X53, e53, st53⟩ := gF X47 hx hZ ho (wd43 hw) Via.refl e47 fc46 104 #[rv a1, rv a2, rv b3, iv o0, iv o0, jv q7, sc, iv o0] [(.long q7)] (hb hy d17_104)
  obtain ⟨T55, X55, e55, st55⟩ := gF X53 hx hZ ho (wd41 hw) Via.refl e53 fc28 118 #[rv a1, rv a2, rv b3, iv o0, iv o0, jv q7, sc, iv o0] [(.long q7), (.ref b3)] (hb hy d17_118)
  have nz58 := nl F_lows_b3.lt u18_0
  have nz59 := nl F_lows_b3.lt u18_1
  have fc60 := (A3.keep K18)
  obtain ⟨_, T57, L57, X57, hQ57, st57⟩ := own_cV X55 hx hZ ho hml (cw28 hw) (rm19_0 l Z a0 hw b3 q7 (q14 - (1 : Int64)) b18_0 oj0 oj0 kx18_0 b18_1 oj0 oj0 kx18_1 T18.heap n0 OL18 pr12 u18_3 u18_5 u18_6 g_b18_0 u18_4 nz58 u18_8 (Ne.symm u18_2) g_b18_1 nz59 fc60 g_b3 u18_2 (Ne.symm nz58) (Ne.symm nz59)) e55 fc60 126 #[rv a1, rv a2, rv b3, iv o0, iv o0, jv q7, sc, iv o0] [(.long q7), (.long (q14 - (1 : Int64)))] [] 0 rfl (hb hy d17_126) (by decide)
  obtain ⟨rfl, Nq57, K57, u57_0, u57_1, u57_2, u57_3, u57_4⟩ := hQ57
  have KK57 : Keep h0 T57.heap [] := KK18.trans K57 (allS (Or.inr sz_b18_0) (allS (Or.inr sz_b18_1) (allS (Or.inr sz_b3) all0)))
  have OL57 := OL18.keep K57 (allS g_b18_0 (allS g_b18_1 (allS g_b3 all0)))
  have N57 := Fr.app N18 Nq57
  have nz61 := nl pr5.lt sz_b18_1
  have nz62 := nl pr5.lt sz_b18_0
  have fc63 := (fc34.keep K57 (ninS nz62 (ninS nz61 (ninS nz27 nin0))))
  obtain ⟨T64, X64, e64, st64⟩ := gF X57 hx hZ ho (wd43 hw) Via.refl rfl fc63 130 #[rv a1, rv a2, rv b3, iv o0, iv o0, jv q7, sc, iv o0] [] (hb hy d17_130)
  have nz65 := nl pr6.lt sz_b18_1
  have nz66 := nl pr6.lt sz_b18_0
  have fc67 := (fc39.keep K57 (ninS nz66 (ninS nz65 (ninS nz38 nin0))))
  have fc69 := (fc28.keep K57 (ninS nz62 (ninS nz61 (ninS nz27 nin0))))
  obtain ⟨T70, X70, e70, st70⟩ := gF X64 hx hZ ho (wd41 hw) Via.refl e64 fc69 76 #[rv a1, rv a2, rv b3, iv o0, iv o0, .val (.long (q36 + (1 : Int64))), sc, iv o1] [vi1] (hb hy d17_76)
  have nz71 := nl pr4.lt sz_b18_1
  have nz72 := nl pr4.lt sz_b18_0
  have fc73 := (fc31.keep K57 (ninS nz72 (ninS nz71 (ninS nz30 nin0))))
  obtain ⟨cl74, Ar74, -, Sz74, Nn74, -, -⟩ := id fc73
  have nz75 := nl pr8.lt sz_b18_1
  have nz76 := nl pr8.lt sz_b18_0
  have fc77 := (fc46.keep K57 (ninS nz76 (ninS nz75 (ninS nz19 nin0))))
  obtain ⟨T78, X78, e78, st78⟩ := gF X70 hx hZ ho (wd43 hw) Via.refl e70 fc77 150 #[rv a1, rv a2, rv b3, iv o0, iv o0, .val (.long (q36 + (1 : Int64))), sc, iv o1] [(.long (q36 + (1 : Int64))), (.ref b3)] (hb hy d17_150)
  have nz79 := nl pr9.lt sz_b18_1
  have nz80 := nl pr9.lt sz_b18_0
  have fc81 := (fc51.keep K57 (ninS nz80 (ninS nz79 (ninS nz50 nin0))))
  have fc84 := (fc60.keep K57)
  obtain ⟨_, T83, L83, X83, hQ83, st83⟩ := own_cV X78 hx hZ ho hml (cw28 hw) (rm19_1 l Z a0 hw b3 (q36 + (1 : Int64)) q48 T57.heap n0 OL57 pr13) e78 fc84 156 #[rv a1, rv a2, rv b3, iv o0, iv o0, .val (.long (q36 + (1 : Int64))), sc, iv o1] [(.long (q36 + (1 : Int64))), (.long q48)] [] 0 rfl (hb hy d17_156) (by decide)
  obtain ⟨rfl, Nq83, ec83⟩ := hQ83
  have N83 := Fr.app N57 Nq83
  have fc85 := (fc20.keep K57 (ninS nz76 (ninS nz75 (ninS nz19 nin0))))
  obtain ⟨T86, X86, e86, st86⟩ := gF X83 hx hZ ho (wd41 hw) Via.refl ec83 fc85 27 #[rv a1, rv a2, rv b3, iv o0, iv o1, .val (.long (q36 + (1 : Int64))), sc, iv o1] [vi1] (hb hy d17_27)
  have nz87 := nl pr2.lt sz_b18_1
  have nz88 := nl pr2.lt sz_b18_0
  have fc89 := (fc23.keep K57 (ninS nz88 (ninS nz87 (ninS nz22 nin0))))
  obtain ⟨cl90, Ar90, -, Sz90, Nn90, -, -⟩ := id fc89
  obtain ⟨_, T91, L91, X91, hQ91, st91⟩ := own_cV X86 hx hZ ho hml (cw35 hw) (rm20_0 l Z a0 hw b3 b18_0 q7 oj0 kx18_0 b18_1 (q14 - (1 : Int64)) oj0 kx18_1 T57.heap n0 OL57 u57_3 u57_2 u57_0 u57_4 u57_1) e86 fc84 166 #[rv a1, rv a2, rv b3, iv o0, iv o1, .val (.long (q36 + (1 : Int64))), sc, iv o1] [] [] 0 rfl (hb hy d17_166) (by decide)
  obtain ⟨b91_0, b91_1, b91_2, b91_3, kx91_0, kx91_1, rfl, Nq91, K91, u91_0, u91_1, u91_2, u91_3, u91_4, u91_5, u91_6, u91_7, u91_8, u91_9, u91_10, u91_11, u91_12, u91_13, u91_14, u91_15, u91_16, u91_17, u91_18⟩ := hQ91
  have KK91 : Keep h0 T91.heap [] := KK57.trans K91 all0
  have sz_b91_0 : h0.size ≤ b91_0 := Nat.le_trans KK57.1 u91_0
  have sz_b91_1 : h0.size ≤ b91_1 := Nat.le_trans KK57.1 u91_1
  have sz_b91_2 : h0.size ≤ b91_2 := Nat.le_trans KK57.1 u91_2
  have sz_b91_3 : h0.size ≤ b91_3 := Nat.le_trans KK57.1 u91_3
  have N91 := Fr.app N83 Nq91
  refine ⟨some (.ref b91_0), _, _, _, _, _, X91, rfl, by decide, nofun, fun fs hr => ?_, ?_⟩
  · refine st3 _ ?_
    refine XS.dup X3.here hx rfl (hb hy d17_3) rfl rfl ?_
    refine xaloadN X3 hx hy d17_4 rfl rfl ?_
    refine st6 _ ?_
    refine X6.arraylength hx (by rw [e6]; exact Ar10.1) (State.isArrayOf_alike hZ.alike Ar10.2.1) (g := (mkF m 8 #[rv a1, rv a2, uu, uu, uu, uu, uu, uu] [(.ref a4), (.ref b3), (.ref b3)])) rfl rfl (hb hy d17_8) _ ?_
    rw [len_of Sz10 Nn10]
    refine xaloadN X6 hx hy d17_9 rfl rfl ?_
    refine st13 _ ?_
    refine X13.arraylength hx (by rw [e13]; exact Ar17.1) (State.isArrayOf_alike hZ.alike Ar17.2.1) (g := (mkF m 13 #[rv a1, rv a2, uu, uu, uu, uu, uu, uu] [(.ref a11), vi1, (.ref b3), (.ref b3)])) rfl rfl (hb hy d17_13) _ ?_
    rw [len_of Sz17 Nn17]
    refine XS.iadd X13.here hx rfl (hb hy d17_14) rfl ?_
    refine st18 _ ?_
    refine XS.astoreN X18.here hx rfl (hb hy d17_18) rfl rfl (l' := #[rv a1, rv a2, rv b3, uu, uu, uu, uu, uu]) rfl ?_
    refine XS.iconst X18.here hx rfl (hb hy d17_19) ?_
    refine XS.istoreN X18.here hx rfl (hb hy d17_20) rfl (l' := #[rv a1, rv a2, rv b3, iv o0, uu, uu, uu, uu]) rfl ?_
    refine XS.iconst X18.here hx rfl (hb hy d17_21) ?_
    refine XS.istore X18.here hx rfl (hb hy d17_22) rfl (l' := #[rv a1, rv a2, rv b3, iv o0, iv o0, uu, uu, uu]) rfl ?_
    refine xiload X18 hx hy d17_24 rfl ?_
    refine xaloadN X18 hx hy d17_26 rfl rfl ?_
    refine st21 _ ?_
    refine X21.arraylength hx (by rw [e21]; exact Ar24.1) (State.isArrayOf_alike hZ.alike Ar24.2.1) (g := (mkF m 30 #[rv a1, rv a2, rv b3, iv o0, iv o0, uu, uu, uu] [(.ref a4), vi0])) rfl rfl (hb hy d17_30) _ ?_
    rw [len_of Sz24 Nn24]
    refine XS.icmpNo X21.here hx rfl (hb hy d17_31) rfl (tlt (by decide : o0 < o1)).2.1 ?_
    refine xaloadN X21 hx hy d17_34 rfl rfl ?_
    refine st25 _ ?_
    refine xiload X25 hx hy d17_38 rfl ?_
    refine own_laJ X25 hx hZ e25 fc23 (v := (.long q7)) (by decide) rfl (hb hy d17_40) ?_
    refine XS.lstore X25.here hx rfl (hb hy d17_41) rfl (l' := #[rv a1, rv a2, rv b3, iv o0, iv o0, jv q7, sc, uu]) rfl ?_
    refine xiloadN X25 hx hy d17_43 rfl ?_
    refine xaloadN X25 hx hy d17_44 rfl rfl ?_
    refine st29 _ ?_
    refine X29.arraylength hx (by rw [e29]; exact Ar32.1) (State.isArrayOf_alike hZ.alike Ar32.2.1) (g := (mkF m 48 #[rv a1, rv a2, rv b3, iv o0, iv o0, jv q7, sc, uu] [(.ref a11), vi0])) rfl rfl (hb hy d17_48) _ ?_
    rw [len_of Sz32 Nn32]
    refine XS.icmpNo X29.here hx rfl (hb hy d17_49) rfl (tlt (by decide : o0 < o1)).2.1 ?_
    refine xaloadN X29 hx hy d17_52 rfl rfl ?_
    refine st35 _ ?_
    refine xiloadN X35 hx hy d17_56 rfl ?_
    refine own_laJ X35 hx hZ e35 fc39 (v := (.long q36)) (by decide) rfl (hb hy d17_57) ?_
    refine xlload X35 hx hy d17_58 rfl ?_
    refine XS.lcmp X35.here hx rfl (hb hy d17_60) rfl ?_
    refine XS.ifYes X35.here hx rfl (pc0 := 61) (pc' := 70) rfl (hb hy d17_61) rfl ((if0 _ _).trans (flt ((fun z => pr7 ((lw_lt q36 q7).mp z)) : ¬ ((lcmpW q36 q7) < o0))).2.1) (by decide) (by decide) ?_
    refine xiloadN X35 hx hy d17_70 rfl ?_
    refine XS.istore X35.here hx rfl (hb hy d17_71) rfl (l' := #[rv a1, rv a2, rv b3, iv o0, iv o0, jv q7, sc, iv o0]) rfl ?_
    refine xiload X35 hx hy d17_73 rfl ?_
    refine xaloadN X35 hx hy d17_75 rfl rfl ?_
    refine st41 _ ?_
    refine X41.arraylength hx (by rw [e41]; exact Ar42.1) (State.isArrayOf_alike hZ.alike Ar42.2.1) (g := (mkF m 79 #[rv a1, rv a2, rv b3, iv o0, iv o0, jv q7, sc, iv o0] [(.ref a11), vi0])) rfl rfl (hb hy d17_79) _ ?_
    rw [len_of Sz42 Nn42]
    refine XS.icmpNo X41.here hx rfl (hb hy d17_80) rfl (tlt (by decide : o0 < o1)).2.1 ?_
    refine xaloadN X41 hx hy d17_83 rfl rfl ?_
    refine st43 _ ?_
    refine xiload X43 hx hy d17_87 rfl ?_
    refine own_laJ X43 hx hZ e43 fc31 (v := (.long q14)) (by decide) rfl (hb hy d17_89) ?_
    refine xaloadN X43 hx hy d17_90 rfl rfl ?_
    refine st47 _ ?_
    refine xiload X47 hx hy d17_94 rfl ?_
    show SS p e below T47 m 96 #[rv a1, rv a2, rv b3, iv o0, iv o0, jv q7, sc, iv o0] [vi0, (.ref a45), (.long q14)] _
    refine own_laJ X47 hx hZ e47 fc51 (v := (.long q48)) (by decide) rfl (hb hy d17_96) ?_
    refine XS.lcmp X47.here hx rfl (hb hy d17_97) rfl ?_
    refine XS.ifNo X47.here hx rfl (hb hy d17_98) rfl ((if0 _ _).trans (flt ((fun z => pr10 ((lw_gt q14 q48).mp z)) : ¬ (o0 < (lcmpW q14 q48)))).2.2.1) ?_
    refine xlload X47 hx hy d17_101 rfl ?_
    refine xaloadN X47 hx hy d17_103 rfl rfl ?_
    refine st53 _ ?_
    refine xiload X53 hx hy d17_107 rfl ?_
    refine own_laJ X53 hx hZ e53 fc51 (v := (.long q48)) (by decide) rfl (hb hy d17_109) ?_
    refine XS.lcmp X53.here hx rfl (hb hy d17_110) rfl ?_
    refine XS.ifNo X53.here hx rfl (hb hy d17_111) rfl ((if0 _ _).trans (flt ((fun z => pr11 ((lw_gt q7 q48).mp z)) : ¬ (o0 < (lcmpW q7 q48)))).2.2.1) ?_
    refine xaloadN X53 hx hy d17_114 rfl rfl ?_
    refine xlload X53 hx hy d17_115 rfl ?_
    refine xaloadN X53 hx hy d17_117 rfl rfl ?_
    refine st55 _ ?_
    refine xiload X55 hx hy d17_121 rfl ?_
    refine own_laJ X55 hx hZ e55 fc31 (v := (.long q14)) (by decide) rfl (hb hy d17_123) ?_
    refine XS.lconst X55.here hx rfl (hb hy d17_124) ?_
    refine XS.lsub X55.here hx rfl (hb hy d17_125) rfl ?_
    refine st57 _ ?_
    refine xaloadN X57 hx hy d17_129 rfl rfl ?_
    refine st64 _ ?_
    refine xiload X64 hx hy d17_133 rfl ?_
    refine own_laJ X64 hx hZ e64 fc67 (v := (.long q36)) (by decide) rfl (hb hy d17_135) ?_
    refine XS.lconst X64.here hx rfl (hb hy d17_136) ?_
    refine XS.ladd X64.here hx rfl (hb hy d17_137) rfl ?_
    refine XS.lstore X64.here hx rfl (hb hy d17_138) rfl (l' := #[rv a1, rv a2, rv b3, iv o0, iv o0, .val (.long (q36 + (1 : Int64))), sc, iv o0]) rfl ?_
    refine XS.iinc X64.here hx rfl (hb hy d17_140) rfl (l' := #[rv a1, rv a2, rv b3, iv o0, iv o0, .val (.long (q36 + (1 : Int64))), sc, .val (.int (o0 + o1))]) rfl ?_
    refine XS.goto X64.here hx rfl (pc0 := 143) (pc' := 73) rfl (hb hy d17_143) (by decide) (by decide) ?_
    refine xiload X64 hx hy d17_73 rfl ?_
    refine xaloadN X64 hx hy d17_75 rfl rfl ?_
    refine st70 _ ?_
    refine X70.arraylength hx (by rw [e70]; exact Ar74.1) (State.isArrayOf_alike hZ.alike Ar74.2.1) (g := (mkF m 79 #[rv a1, rv a2, rv b3, iv o0, iv o0, .val (.long (q36 + (1 : Int64))), sc, iv o1] [(.ref a11), vi1])) rfl rfl (hb hy d17_79) _ ?_
    rw [len_of Sz74 Nn74]
    refine XS.icmpYes X70.here hx rfl (pc0 := 80) (pc' := 146) rfl (hb hy d17_80) rfl (flt (by decide : ¬ (o1 < o1))).2.1 (by decide) (by decide) ?_
    refine xaloadN X70 hx hy d17_146 rfl rfl ?_
    refine xlload X70 hx hy d17_147 rfl ?_
    refine xaloadN X70 hx hy d17_149 rfl rfl ?_
    refine st78 _ ?_
    refine xiload X78 hx hy d17_153 rfl ?_
    refine own_laJ X78 hx hZ e78 fc81 (v := (.long q48)) (by decide) rfl (hb hy d17_155) ?_
    refine st83 _ ?_
    refine XS.iinc X83.here hx rfl (hb hy d17_159) rfl (l' := #[rv a1, rv a2, rv b3, iv o0, .val (.int (o0 + o1)), .val (.long (q36 + (1 : Int64))), sc, iv o1]) rfl ?_
    refine XS.goto X83.here hx rfl (pc0 := 162) (pc' := 24) rfl (hb hy d17_162) (by decide) (by decide) ?_
    refine xiload X83 hx hy d17_24 rfl ?_
    refine xaloadN X83 hx hy d17_26 rfl rfl ?_
    refine st86 _ ?_
    refine X86.arraylength hx (by rw [e86]; exact Ar90.1) (State.isArrayOf_alike hZ.alike Ar90.2.1) (g := (mkF m 30 #[rv a1, rv a2, rv b3, iv o0, iv o1, .val (.long (q36 + (1 : Int64))), sc, iv o1] [(.ref a4), vi1])) rfl rfl (hb hy d17_30) _ ?_
    rw [len_of Sz90 Nn90]
    refine XS.icmpYes X86.here hx rfl (pc0 := 31) (pc' := 165) rfl (hb hy d17_31) rfl (flt (by decide : ¬ (o1 < o1))).2.1 (by decide) (by decide) ?_
    refine xaloadN X86 hx hy d17_165 rfl rfl ?_
    refine st91 _ ?_
    show SS p e below T91 m 169 #[rv a1, rv a2, rv b3, iv o0, iv o1, .val (.long (q36 + (1 : Int64))), sc, iv o1] [(.ref b91_0)] _
    exact own_retR X91 hx hret rfl rfl rfl (hb hy d17_169) hr
  · exact ⟨b91_0, b91_1, b91_2, b91_3, kx91_0, kx91_1, rfl, N91, KK91, sz_b91_0, sz_b91_1, sz_b91_2, sz_b91_3, u91_4, u91_5, u91_6, u91_7, u91_8, u91_9, u91_10, u91_11, u91_12, u91_13, u91_14, u91_15, u91_16, u91_17, u91_18⟩
theorem rm14_3 (l : Launch) (Z : State) (a0 : Array Value) (hw : HW a0 Z) (a1 : Addr) (p2 : Int32) (a3 w4 w6 w7 : Addr) (k8 : ClassId) (q11 : Int64) (a13 : Addr) (q14 : Int64) (k15 : ClassId) (a16 : Addr) (q17 : Int64) (k18 : ClassId) (p24 : Int32) (a31 : Addr) (k32 : ClassId) (a41 a44 : Addr) (p47 : Int32) (h0 : Heap) (n0 : Nat) (OL0 : Old Z n0 h0) (pr1 : Sta Z Z.heap s45 s2 s5 (.ref w4)) (pr2 : Fld Z Z.heap w4 s29 s13 s7 (.ref w6)) (pr3 : Asl Z Z.heap w6 k8 (.object s20) o12 p2 (.ref w7)) (pr4 : Exa Z Z.heap w4 s29) (pr5 : Exa Z Z.heap w7 s42) (pr6 : Fld Z Z.heap w7 s42 "low" "J" lj0) (pr7 : Fld Z Z.heap w7 s42 "high" "J" (.long q11)) (pr8 : ¬ (q11 < oj0)) (pr9 : ¬ ((281474976710656 : Int64) < q11)) (pr10 : Fld Z h0 a3 s43 "lows" "[J" (.ref a13)) (pr11 : Arv Z h0 a13 k15 .long o1 [(.long q14)] lj0) (pr12 : Fld Z h0 a3 s43 "highs" "[J" (.ref a16)) (pr13 : Arv Z h0 a16 k18 .long o1 [(.long q17)] lj0) (pr14 : ¬ (q17 < oj0)) (pr15 : ¬ (q11 < q14)) (pr16 : ¬ ((q14 - (1 : Int64)) < oj0)) (pr17 : q11 < (q17 + (1 : Int64))) (pr18 : Fld Z h0 a1 s45 s15 "Z" (.int p24)) (pr19 : Exa Z h0 a1 s45) (pr20 : n0 ≤ a1) (pr21 : Fld Z h0 a1 s45 "sets" s8 (.ref a31)) (pr22 : Asl Z h0 a31 k32 tV o12 p2 .null) (pr23 : a31 ≠ a1) (pr24 : n0 ≤ a31) (pr25 : Ovr Z k32 s43) (pr26 : Fld Z h0 a1 s45 s11 s5 (.ref a41)) (pr27 : a1 ≠ a31) (pr28 : Fld Z h0 a1 s45 s16 s5 (.ref a44)) (pr29 : Fld Z h0 a1 s45 s48 "Z" (.int p47)) :
    MF l Z mn14 prog_66_method_6_code 4 none ⟨5, 11, 18, 3075⟩ #[(.ref a1), (.int p2), (.ref a3)] h0 (fun v h L => ∃ b19_1 b19_2 b19_3 : Addr, ∃ kx19_0 : ClassId, ∃ kx19_1 : ClassId, v = none ∧ Fr n0 L ∧ Keep h0 h [a1, a31] ∧ h0.size ≤ b19_1 ∧ h0.size ≤ b19_2 ∧ h0.size ≤ b19_3 ∧ b19_1 ≠ b19_2 ∧ b19_1 ≠ b19_3 ∧ b19_2 ≠ b19_3 ∧ Fld Z h a1 s45 s15 "Z" (.int (nar .boolean (p24 ||| o0))) ∧ Fld Z h a1 s45 "sets" s8 (.ref a31) ∧ Fld Z h a1 s45 s11 s5 (.ref a41) ∧ Fld Z h a1 s45 s16 s5 (.ref a44) ∧ Fld Z h a1 s45 s48 "Z" (.int p47) ∧ Asl Z h a31 k32 tV o12 p2 (.ref b19_1) ∧ Exa Z h b19_1 s43 ∧ Fld Z h b19_1 s43 "lows" "[J" (.ref b19_2) ∧ Fld Z h b19_1 s43 "highs" "[J" (.ref b19_3) ∧ Arv Z h b19_2 kx19_0 .long o1 [lj0] lj0 ∧ Exa Z h b19_2 "[J" ∧ Arv Z h b19_3 kx19_1 .long o1 [(.long (q14 - (1 : Int64)))] lj0 ∧ Exa Z h b19_3 "[J") := by
  refine own_startN (plainFor_of_name pn_7) (fun m => (ef_14_39 m a1 p2 a3)) ?_
  intro p e s m below meth c s₁ hZ hx hy hml ho hnm hnamed hret X0 e0
  have N0 := Fr.nil n0
  obtain ⟨T5, X5, e5, st5⟩ := getS2 X0 hx hZ ho (host := "") (Or.inl (wd52 hw)) Via.refl e0 (pr1.ext OL0.2) (g := (mkF m 0 #[rv a1, iv p2, rv a3, uu] [])) rfl (hb hy d14_0)
  obtain ⟨_, T9, L9, X9, hQ9, st9⟩ := own_cI X5 hx hZ ho hml (cw24 hw) (rm15_0 l Z a0 hw w4 p2 w6 w7 k8 h0 n0 OL0 pr2 pr3) e5 (pr4.ext OL0.2) 4 #[rv a1, iv p2, rv a3, uu] [(.int p2)] [] 0 rfl (hb hy d14_4) (by decide)
  obtain ⟨rfl, Nq9, ec9⟩ := hQ9
  have N9 := Fr.app N0 Nq9
  obtain ⟨T10, X10, e10, st10⟩ := castY X9 hx hZ ho (wd118 hw) ec9 (Ins.self (pr5.ext OL0.2)) (g := (mkF m 9 #[rv a1, iv p2, rv a3, uu] [(.ref w7)])) rfl rfl (hb hy d14_9)
  obtain ⟨_, T12, L12, X12, hQ12, st12⟩ := own_cV X10 hx hZ ho hml (cw26 hw) (rm16_0 l Z a0 hw w7 q11 h0 n0 OL0 pr6 pr7 pr8 pr9) e10 (pr5.ext OL0.2) 12 #[rv a1, iv p2, rv a3, uu] [] [] 0 rfl (hb hy d14_12) (by decide)
  obtain ⟨b12_0, b12_1, b12_2, kx12_0, kx12_1, rfl, Nq12, K12, u12_0, u12_1, u12_2, u12_3, u12_4, u12_5, u12_6, u12_7, u12_8, u12_9, u12_10, u12_11, u12_12⟩ := hQ12
  have KK12 : Keep h0 T12.heap [a1, a31] := (Keep.refl h0 [a1, a31]).trans K12 all0
  have OL12 := OL0.keep K12 all0
  have N12 := Fr.app N9 Nq12
  have fc20 := (pr10.keep K12 nin0)
  have fc21 := (pr11.keep K12 nin0)
  have fc22 := (pr12.keep K12 nin0)
  have fc23 := (pr13.keep K12 nin0)
  obtain ⟨_, T19, L19, X19, hQ19, st19⟩ := own_cV X12 hx hZ ho hml (cw36 hw) (rm17_3 l Z a0 hw b12_0 a3 b12_1 oj0 kx12_0 a13 q14 k15 a16 q17 k18 b12_2 q11 kx12_1 T12.heap n0 OL12 u12_7 u12_9 fc20 fc21 fc22 fc23 pr14 u12_8 u12_11 pr15 pr8 pr16 pr17) rfl u12_6 16 #[rv a1, iv p2, rv a3, uu] [(.ref a3)] [] 0 rfl (hb hy d14_16) (by decide)
  obtain ⟨b19_0, b19_1, b19_2, b19_3, kx19_0, kx19_1, rfl, Nq19, K19, u19_0, u19_1, u19_2, u19_3, u19_4, u19_5, u19_6, u19_7, u19_8, u19_9, u19_10, u19_11, u19_12, u19_13, u19_14, u19_15, u19_16, u19_17, u19_18⟩ := hQ19
  have KK19 : Keep h0 T19.heap [a1, a31] := KK12.trans K19 all0
  have OL19 := OL12.keep K19 all0
  have sz_b19_0 : h0.size ≤ b19_0 := Nat.le_trans KK12.1 u19_0
  have sz_b19_1 : h0.size ≤ b19_1 := Nat.le_trans KK12.1 u19_1
  have sz_b19_2 : h0.size ≤ b19_2 := Nat.le_trans KK12.1 u19_2
  have sz_b19_3 : h0.size ≤ b19_3 := Nat.le_trans KK12.1 u19_3
  have N19 := Fr.app N12 Nq19
  have fc25 := ((pr18.keep K12 nin0).keep K19 nin0)
  obtain ⟨T26, X26, e26, st26⟩ := gF X19 hx hZ ho (wd190 hw) Via.refl rfl fc25 22 #[rv a1, iv p2, rv a3, rv b19_0] [(.ref a1)] (hb hy d14_22)
  obtain ⟨_, T27, L27, X27, hQ27, st27⟩ := own_cV X26 hx hZ ho hml (cw37 hw) (rm26_0 l Z a0 hw b19_0 b19_1 T19.heap n0 OL19 u19_11) e26 u19_10 26 #[rv a1, iv p2, rv a3, rv b19_0] [] [(.int p24), (.ref a1)] 2 rfl (hb hy d14_26) (by decide)
  obtain ⟨rfl, Nq27, ec27⟩ := hQ27
  have N27 := Fr.app N19 Nq27
  have fc28 := ((pr19.keep K12).keep K19)
  obtain ⟨T29, h29, X29, e29, W29, st29⟩ := putFN X27 hx hZ ho (wd190 hw) Via.refl ec27 fc25 fc28 (Or.inl (wd191 hw)) (wd46 hw) (ty := .boolean) (v' := (.int (nar .boolean (p24 ||| o0)))) (by decide) rfl (fits_nar_bool _) (g := (mkF m 30 #[rv a1, iv p2, rv a3, rv b19_0] [(.int (p24 ||| o0)), (.ref a1)])) rfl rfl (hb hy d14_30)
  have Fw29 := fc25.same W29
  have KK29 : Keep h0 h29 [a1, a31] := KK19.wr W29 (Or.inl (List.mem_of_getElem? (i := 0) rfl))
  have OL29 := OL19.wr W29 pr20
  have N29 := Fr.snoc X29 N27 pr20
  obtain ⟨T30, h30, X30, e30, E30, LM30, st30⟩ := own_mk X29 hx hZ hml hnamed (wd197 hw) (wd200 hw) own_lok1 rfl rfl e29 a1 p2 #[rv a1, iv p2, rv a3, rv b19_0] [(.ref b19_0)] rfl (hb hy d14_36) (by decide) (by decide) (W := 1) rfl (by decide)
  obtain ⟨b30, g30⟩ : ∃ z, z = h29.size := ⟨_, rfl⟩
  rw [← g30] at LM30 st30
  have KK30 : Keep h0 h30 [a1, a31] := KK29.ext E30
  have OL30 := OL29.ext E30
  have nz34 := nl pr19.lt sz_b19_0
  have fc35 := ((u19_11.other W29 (Or.inl (Ne.symm nz34))).ext E30)
  have fc36 := ((((pr21.keep K12 nin0).keep K19 nin0).other W29 (Or.inr (slot_ne (Or.inr (wd69 hw)) (Or.inl (wd191 hw)) (by decide) (t := (.array tV)) (t' := .boolean) (by decide) (by decide)))).ext E30)
  have fc37 := ((((pr22.keep K12 nin0).keep K19 nin0).other W29 pr23).ext E30)
  have fc38 := ((u19_12.wr W29).ext E30)
  have fc39 := ((fc28.wr W29).ext E30)
  have fc40 := ((u19_10.wr W29).ext E30)
  obtain ⟨_, T33, L33, X33, hQ33, st33⟩ := own_cV X30 hx hZ ho hml (cw39 hw) (rm27_0 l Z a0 hw b19_0 b30 b19_1 a1 p2 a31 k32 h30 n0 OL30 fc35 LM30 fc36 fc37 pr24 pr25 fc38 fc39) e30 fc40 41 #[rv a1, iv p2, rv a3, rv b19_0] [(.ref b30)] [] 0 rfl (hb hy d14_41) (by decide)
  obtain ⟨rfl, Nq33, K33, u33_0⟩ := hQ33
  have KK33 : Keep h0 T33.heap [a1, a31] := KK30.trans K33 (allS (Or.inl (List.mem_of_getElem? (i := 1) rfl)) all0)
  have N33 := Fr.app N29 Nq33
  have fc42 := (((((pr26.keep K12 nin0).keep K19 nin0).other W29 (Or.inr (slot_ne (Or.inr (wd97 hw)) (Or.inl (wd191 hw)) (by decide) (t := (.object s30)) (t' := .boolean) (by decide) (by decide)))).ext E30).keep K33 (ninS pr27 nin0))
  have fc43 := ((Fw29.ext E30).keep K33 (ninS pr27 nin0))
  have fc45 := (((((pr28.keep K12 nin0).keep K19 nin0).other W29 (Or.inr (slot_ne (Or.inr (wd95 hw)) (Or.inl (wd191 hw)) (by decide) (t := (.object s30)) (t' := .boolean) (by decide) (by decide)))).ext E30).keep K33 (ninS pr27 nin0))
  have fc46 := (fc36.keep K33 (ninS pr27 nin0))
  have fc48 := (((((pr29.keep K12 nin0).keep K19 nin0).other W29 (Or.inr (slot_ne (Or.inl (wd104 hw)) (Or.inl (wd191 hw)) (by decide) (t := .boolean) (t' := .boolean) (by decide) (by decide)))).ext E30).keep K33 (ninS pr27 nin0))
  have fc49 := (fc38.keep K33)
  have nz50 := nl pr29.lt sz_b19_1
  have nz51 := nl pr22.lt sz_b19_1
  have fc52 := (((u19_13.other W29 (Or.inl (Ne.symm nz50))).ext E30).keep K33 (ninS (Ne.symm nz51) nin0))
  have fc53 := (((u19_14.other W29 (Or.inl (Ne.symm nz50))).ext E30).keep K33 (ninS (Ne.symm nz51) nin0))
  have nz54 := nl pr29.lt sz_b19_2
  have nz55 := nl pr22.lt sz_b19_2
  have fc56 := (((u19_15.other W29 (Ne.symm nz54)).ext E30).keep K33 (ninS (Ne.symm nz55) nin0))
  have fc57 := (((u19_16.wr W29).ext E30).keep K33)
  have nz58 := nl pr29.lt sz_b19_3
  have nz59 := nl pr22.lt sz_b19_3
  have fc60 := (((u19_17.other W29 (Ne.symm nz58)).ext E30).keep K33 (ninS (Ne.symm nz59) nin0))
  have fc61 := (((u19_18.wr W29).ext E30).keep K33)
  refine ⟨none, _, _, _, _, _, X33, rfl, by decide, fun _ => rfl, fun fs hr => ?_, ?_⟩
  · refine st5 _ ?_
    refine xiloadN X5 hx hy d14_3 rfl ?_
    refine st9 _ ?_
    refine st10 _ ?_
    refine st12 _ ?_
    refine xaloadN X12 hx hy d14_15 rfl rfl ?_
    refine st19 _ ?_
    refine XS.astoreN X19.here hx rfl (hb hy d14_19) rfl rfl (l' := #[rv a1, iv p2, rv a3, rv b19_0]) rfl ?_
    refine xaloadN X19 hx hy d14_20 rfl rfl ?_
    refine XS.dup X19.here hx rfl (hb hy d14_21) rfl rfl ?_
    refine st26 _ ?_
    refine xaloadN X26 hx hy d14_25 rfl rfl ?_
    refine st27 _ ?_
    refine XS.ior X27.here hx rfl (hb hy d14_29) rfl ?_
    refine st29 _ ?_
    refine xaloadN X29 hx hy d14_33 rfl rfl ?_
    refine xaloadN X29 hx hy d14_34 rfl rfl ?_
    refine xiloadN X29 hx hy d14_35 rfl ?_
    refine st30 _ ?_
    refine st33 _ ?_
    show SS p e below T33 m 44 #[rv a1, iv p2, rv a3, rv b19_0] [] _
    exact X33.returnOut hx hret (hb hy d14_44) hr
  · exact ⟨b19_1, b19_2, b19_3, kx19_0, kx19_1, rfl, N33, KK33, sz_b19_1, sz_b19_2, sz_b19_3, u19_7, u19_8, u19_9, fc43, fc46, fc42, fc45, fc48, u33_0, fc49, fc52, fc53, fc56, fc57, fc60, fc61⟩
theorem rm19_2 (l : Launch) (Z : State) (a0 : Array Value) (hw : HW a0 Z) (a1 : Addr) (q2 q3 : Int64) (a4 : Addr) (q7 q8 : Int64) (k9 : ClassId) (a12 : Addr) (q17 q18 : Int64) (k19 : ClassId) (h0 : Heap) (n0 : Nat) (OL0 : Old Z n0 h0) (pr1 : ¬ (q3 < q2)) (pr2 : Fld Z h0 a1 s44 "lows" "[J" (.ref a4)) (pr3 : Fld Z h0 a1 s44 "count" "I" vi1) (pr4 : Arv Z h0 a4 k9 .long o2 [(.long q7), (.long q8)] lj0) (pr5 : n0 ≤ a4) (pr6 : Fld Z h0 a1 s44 "highs" "[J" (.ref a12)) (pr7 : a1 ≠ a4) (pr8 : Arv Z h0 a12 k19 .long o2 [(.long q17), (.long q18)] lj0) (pr9 : a12 ≠ a4) (pr10 : n0 ≤ a12) (pr11 : a1 ≠ a12) (pr12 : Exa Z h0 a1 s44) (pr13 : n0 ≤ a1) (pr14 : a4 ≠ a12) (pr15 : a4 ≠ a1) (pr16 : a12 ≠ a1) :
    MF l Z mn19 prog_64_method_2_code 5 none ⟨0, 0, 0, 0⟩ #[(.ref a1), (.long q2), (.long q3)] h0 (fun v h L => v = none ∧ Fr n0 L ∧ Keep h0 h [a4, a12, a1] ∧ Arv Z h a4 k9 .long o2 [(.long q7), (.long q2)] lj0 ∧ Arv Z h a12 k19 .long o2 [(.long q17), (.long q3)] lj0 ∧ Fld Z h a1 s44 "lows" "[J" (.ref a4) ∧ Fld Z h a1 s44 "count" "I" (.int o2) ∧ Fld Z h a1 s44 "highs" "[J" (.ref a12)) := by
  refine own_start (plainFor_of_name pn_11) (fun m => (ef_19_28 m a1 q2 q3)) ?_
  intro p e s m below meth c s₁ hZ hx hy hml ho hnm hret X0 e0
  have N0 := Fr.nil n0
  obtain ⟨T5, X5, e5, st5⟩ := gF X0 hx hZ ho (wd143 hw) Via.refl e0 pr2 7 #[rv a1, jv q2, sc, jv q3, sc] [] (hb hy d19_7)
  obtain ⟨T6, X6, e6, st6⟩ := gF X5 hx hZ ho (wd152 hw) Via.refl e5 pr3 11 #[rv a1, jv q2, sc, jv q3, sc] [(.ref a4)] (hb hy d19_11)
  obtain ⟨T11, h11, X11, e11, W11, VV11, st11⟩ := own_sJ X6 hx hZ e6 pr4 o1 (by decide) 1 q2 [] 15 #[rv a1, jv q2, sc, jv q3, sc] (hb hy d19_15) rfl (Nat.le_of_ble_eq_true rfl)
  have V11 : Arv Z h11 a4 k9 .long o2 [(.long q7), (.long q2)] lj0 := VV11
  have KK11 : Keep h0 h11 [a4, a12, a1] := (Keep.refl h0 [a4, a12, a1]).wr W11 (Or.inl (List.mem_of_getElem? (i := 0) rfl))
  have N11 := Fr.snoc X11 N0 pr5
  have fc13 := (pr6.other W11 (Or.inl pr7))
  obtain ⟨T14, X14, e14, st14⟩ := gF X11 hx hZ ho (wd145 hw) Via.refl e11 fc13 17 #[rv a1, jv q2, sc, jv q3, sc] [] (hb hy d19_17)
  have fc15 := (pr3.other W11 (Or.inl pr7))
  obtain ⟨T16, X16, e16, st16⟩ := gF X14 hx hZ ho (wd152 hw) Via.refl e14 fc15 21 #[rv a1, jv q2, sc, jv q3, sc] [(.ref a12)] (hb hy d19_21)
  have fc20 := (pr8.other W11 pr9)
  obtain ⟨T22, h22, X22, e22, W22, VV22, st22⟩ := own_sJ X16 hx hZ e16 fc20 o1 (by decide) 1 q3 [] 25 #[rv a1, jv q2, sc, jv q3, sc] (hb hy d19_25) rfl (Nat.le_of_ble_eq_true rfl)
  have V22 : Arv Z h22 a12 k19 .long o2 [(.long q17), (.long q3)] lj0 := VV22
  have KK22 : Keep h0 h22 [a4, a12, a1] := KK11.wr W22 (Or.inl (List.mem_of_getElem? (i := 1) rfl))
  have N22 := Fr.snoc X22 N11 pr10
  have fc23 := (fc15.other W22 (Or.inl pr11))
  obtain ⟨T24, X24, e24, st24⟩ := gF X22 hx hZ ho (wd152 hw) Via.refl e22 fc23 28 #[rv a1, jv q2, sc, jv q3, sc] [(.ref a1)] (hb hy d19_28)
  have fc25 := ((pr12.wr W11).wr W22)
  obtain ⟨T26, h26, X26, e26, W26, st26⟩ := putF X24 hx hZ ho (host := "") (Or.inl (wd152 hw)) Via.refl e24 fc23 fc25 (Or.inl (wd153 hw)) (wd137 hw) (ty := .int) (by decide) rfl rfl (g := (mkF m 33 #[rv a1, jv q2, sc, jv q3, sc] [(.int o2), (.ref a1)])) rfl rfl (hb hy d19_33)
  have Fw26 := fc23.same W26
  have KK26 : Keep h0 h26 [a4, a12, a1] := KK22.wr W26 (Or.inl (List.mem_of_getElem? (i := 2) rfl))
  have N26 := Fr.snoc X26 N22 pr13
  have fc27 := ((fc13.other W22 (Or.inl pr11)).other W26 (Or.inr (slot_ne (Or.inr (wd146 hw)) (Or.inl (wd153 hw)) (by decide) (t := (.array .long)) (t' := .int) (by decide) (by decide))))
  have fc28 := (((pr2.other W11 (Or.inl pr7)).other W22 (Or.inl pr11)).other W26 (Or.inr (slot_ne (Or.inr (wd144 hw)) (Or.inl (wd153 hw)) (by decide) (t := (.array .long)) (t' := .int) (by decide) (by decide))))
  have fc29 := ((V11.other W22 pr14).other W26 pr15)
  have fc30 := (V22.other W26 pr16)
  refine ⟨none, _, _, _, _, _, X26, e26, by decide, fun _ => rfl, fun fs hr => ?_, ?_⟩
  · refine xlloadN X0 hx hy d19_0 rfl ?_
    refine xlloadN X0 hx hy d19_1 rfl ?_
    refine XS.lcmp X0.here hx rfl (hb hy d19_2) rfl ?_
    refine XS.ifNo X0.here hx rfl (hb hy d19_3) rfl ((if0 _ _).trans (flt ((fun z => pr1 ((lw_gt q2 q3).mp z)) : ¬ (o0 < (lcmpW q2 q3)))).2.2.1) ?_
    refine xaloadN X0 hx hy d19_6 rfl rfl ?_
    refine st5 _ ?_
    refine xaloadN X5 hx hy d19_10 rfl rfl ?_
    refine st6 _ ?_
    refine xlloadN X6 hx hy d19_14 rfl ?_
    refine st11 _ ?_
    refine xaloadN X11 hx hy d19_16 rfl rfl ?_
    refine st14 _ ?_
    refine xaloadN X14 hx hy d19_20 rfl rfl ?_
    refine st16 _ ?_
    refine xlloadN X16 hx hy d19_24 rfl ?_
    refine st22 _ ?_
    refine xaloadN X22 hx hy d19_26 rfl rfl ?_
    refine XS.dup X22.here hx rfl (hb hy d19_27) rfl rfl ?_
    refine st24 _ ?_
    refine XS.iconst X24.here hx rfl (hb hy d19_31) ?_
    refine XS.iadd X24.here hx rfl (hb hy d19_32) rfl ?_
    refine st26 _ ?_
    show SS p e below T26 m 36 #[rv a1, jv q2, sc, jv q3, sc] [] _
    exact X26.returnOut hx hret (hb hy d19_36) hr
  · exact ⟨rfl, N26, KK26, fc29, fc30, fc28, Fw26, fc27⟩
theorem d21_6 : DC cb21 6 (.aload_n 0) 1 := by decide +kernel
theorem d21_7 : DC cb21 7 (.invokevirtual 319) 3 := by decide +kernel
theorem d21_10 : DC cb21 10 (.checkcast 320) 3 := by decide +kernel
theorem d21_13 : DC cb21 13 (.areturn) 1 := by decide +kernel
theorem ef_21_44 (m : MethodId) (x0 : Addr) : entryFrame m #[(.ref x0), (.int (2 : Int32))] 3 = mkF m 0 #[.val (.ref x0), .val (.int (2 : Int32)), .unset] [] := by first | (simp [entryFrame, mkF, argsToLocals, Value.category]; done) | rfl
theorem rm21_1 (l : Launch) (Z : State) (a0 : Array Value) (hw : HW a0 Z) (a1 : Addr) (q2 q3 : Int64) (k4 : ClassId) (h0 : Heap) (n0 : Nat) (OL0 : Old Z n0 h0) (pr1 : Arv Z h0 a1 k4 .long o2 [(.long q2), (.long q3)] lj0) (pr2 : Exa Z h0 a1 "[J") :
    MF l Z mn21 jdk_65_method_124_code 3 (some (.array .long)) ⟨1, 1, 2, 14⟩ #[(.ref a1), (.int o2)] h0 (fun v h L => ∃ b6 : Addr, v = some (.ref b6) ∧ Fr n0 L ∧ Keep h0 h [] ∧ h0.size ≤ b6 ∧ Arv Z h b6 k4 .long o2 [(.long q2), (.long q3)] lj0 ∧ Exa Z h b6 "[J") := by
  refine own_start (plainFor_of_name pn_12) (fun m => (ef_21_44 m a1)) ?_
  intro p e s m below meth c s₁ hZ hx hy hml ho hnm hret X0 e0
  have N0 := Fr.nil n0
  obtain ⟨cl5, Ar5, -, Sz5, Nn5, -, -⟩ := id pr1
  obtain ⟨T6, h6, X6, e6, E6, A6, AE6, st6⟩ := cloneH X0 hx hZ ho (wd258 hw) (wd259 hw) (wd263 hw) (wd261 hw) (wd262 hw) (wd264 hw) e0 (Arv.arh pr1) pr2 (g := (mkF m 7 #[rv a1, iv o2, uu] [(.ref a1)])) rfl (by rw [hml]; rfl) rfl (hb hy d21_7) (by decide) (W := 0) (cap := 2) (by show 2 * 0 + _ ≤ _; exact Nat.le_of_eq rfl) (by decide) (by decide) (by decide) (by decide)
  obtain ⟨b6, g6⟩ : ∃ z, z = h0.size := ⟨_, rfl⟩
  rw [← g6] at A6 AE6 st6
  have V6 : Arv Z h6 b6 k4 .long o2 [(.long q2), (.long q3)] lj0 := A6
  have sz_b6 : h0.size ≤ b6 := (Nat.le_trans (Keep.refl h0 []).1 (Nat.le_of_eq g6.symm))
  have KK6 : Keep h0 h6 [] := (Keep.refl h0 []).ext E6
  obtain ⟨T7, X7, e7, st7⟩ := castY X6 hx hZ ho (wd265 hw) e6 (Ins.self AE6) (g := (mkF m 10 #[rv a1, iv o2, uu] [(.ref b6)])) rfl rfl (hb hy d21_10)
  refine ⟨some (.ref b6), _, _, _, _, _, X7, e7, by decide, nofun, fun fs hr => ?_, ?_⟩
  · refine xiloadN X0 hx hy d21_0 rfl ?_
    refine xaloadN X0 hx hy d21_1 rfl rfl ?_
    refine X0.arraylength hx (by rw [e0]; exact Ar5.1) (State.isArrayOf_alike hZ.alike Ar5.2.1) (g := (mkF m 2 #[rv a1, iv o2, uu] [(.ref a1), (.int o2)])) rfl rfl (hb hy d21_2) _ ?_
    rw [len_of Sz5 Nn5]
    refine XS.icmpNo X0.here hx rfl (hb hy d21_3) rfl (teq (rfl : o2 = o2)).2 ?_
    refine xaloadN X0 hx hy d21_6 rfl rfl ?_
    refine st6 _ ?_
    refine st7 _ ?_
    show SS p e below T7 m 13 #[rv a1, iv o2, uu] [(.ref b6)] _
    exact own_retR X7 hx hret rfl rfl rfl (hb hy d21_13) hr
  · exact ⟨b6, rfl, N0, KK6, sz_b6, V6, AE6⟩
theorem rm20_2 (l : Launch) (Z : State) (a0 : Array Value) (hw : HW a0 Z) (a1 a4 : Addr) (q9 q10 : Int64) (k11 : ClassId) (a15 : Addr) (q20 q21 : Int64) (k22 : ClassId) (h0 : Heap) (n0 : Nat) (OL0 : Old Z n0 h0) (pr1 : Fld Z h0 a1 s44 "count" "I" (.int o2)) (pr2 : Fld Z h0 a1 s44 "lows" "[J" (.ref a4)) (pr3 : Arv Z h0 a4 k11 .long o2 [(.long q9), (.long q10)] lj0) (pr4 : Exa Z h0 a4 "[J") (pr5 : Fld Z h0 a1 s44 "highs" "[J" (.ref a15)) (pr6 : Arv Z h0 a15 k22 .long o2 [(.long q20), (.long q21)] lj0) (pr7 : Exa Z h0 a15 "[J") :
    MF l Z mn20 prog_64_method_3_code 1 (some (.object s32)) ⟨3, 4, 7, 38⟩ #[(.ref a1)] h0 (fun v h L => ∃ b30_0 b3 b12_0 b23_0 : Addr, v = some (.ref b30_0) ∧ Fr n0 L ∧ Keep h0 h [] ∧ h0.size ≤ b30_0 ∧ h0.size ≤ b3 ∧ h0.size ≤ b12_0 ∧ h0.size ≤ b23_0 ∧ b30_0 ≠ b3 ∧ b30_0 ≠ b12_0 ∧ b30_0 ≠ b23_0 ∧ b3 ≠ b12_0 ∧ b3 ≠ b23_0 ∧ b12_0 ≠ b23_0 ∧ Exa Z h b30_0 s32 ∧ Fld Z h b30_0 s32 "value" s3 (.ref b3) ∧ Exa Z h b3 s43 ∧ Fld Z h b3 s43 "lows" "[J" (.ref b12_0) ∧ Fld Z h b3 s43 "highs" "[J" (.ref b23_0) ∧ Arv Z h b12_0 k11 .long o2 [(.long q9), (.long q10)] lj0 ∧ Exa Z h b12_0 "[J" ∧ Arv Z h b23_0 k22 .long o2 [(.long q20), (.long q21)] lj0 ∧ Exa Z h b23_0 "[J") := by
  refine own_start (plainFor_of_name pn_11) (fun m => (ef_20_34 m a1)) ?_
  intro p e s m below meth c s₁ hZ hx hy hml ho hnm hret X0 e0
  have N0 := Fr.nil n0
  obtain ⟨T2, X2, e2, st2⟩ := gF X0 hx hZ ho (wd152 hw) Via.refl e0 pr1 1 #[rv a1] [] (hb hy d20_1)
  obtain ⟨T3, h3, X3, e3, E3, A3, D3, -, st3⟩ := newO X2 hx hZ ho (wd159 hw) (wd35 hw) (wd31 hw) e2 (g := (mkF m 13 #[rv a1] [])) rfl (hb hy d20_13) (by decide) (by decide)
  obtain ⟨b3, g3⟩ : ∃ z, z = h0.size := ⟨_, rfl⟩
  rw [← g3] at A3 D3 st3
  have g_b3 : n0 ≤ b3 := (Nat.le_trans (Nat.le_trans (Nat.le_of_eq OL0.1.symm) OL0.2.1) (Nat.le_of_eq g3.symm))
  have sz_b3 : h0.size ≤ b3 := (Nat.le_trans (Keep.refl h0 []).1 (Nat.le_of_eq g3.symm))
  have KK3 : Keep h0 h3 [] := (Keep.refl h0 []).ext E3
  have OL3 := OL0.ext E3
  have F_lows_b3 : Fld Z h3 b3 s43 "lows" "[J" .null := D3 (Or.inr (wd42 hw)) (ty := (.array .long)) (by decide)
  have F_highs_b3 : Fld Z h3 b3 s43 "highs" "[J" .null := D3 (Or.inr (wd44 hw)) (ty := (.array .long)) (by decide)
  have fc5 := (pr2.ext E3)
  obtain ⟨T6, X6, e6, st6⟩ := gF X3 hx hZ ho (wd143 hw) Via.refl e3 fc5 18 #[rv a1] [(.ref b3), (.ref b3)] (hb hy d20_18)
  have fc7 := (pr1.ext E3)
  obtain ⟨T8, X8, e8, st8⟩ := gF X6 hx hZ ho (wd152 hw) Via.refl e6 fc7 22 #[rv a1] [(.ref a4), (.ref b3), (.ref b3)] (hb hy d20_22)
  have fc13 := (pr3.ext E3)
  have fc14 := (pr4.ext E3)
  obtain ⟨_, T12, L12, X12, hQ12, st12⟩ := own_cS X8 hx hZ ho hml (cw30 hw) (rm21_1 l Z a0 hw a4 q9 q10 k11 h3 n0 OL3 fc13 fc14) e8 25 #[rv a1] [(.ref a4), (.int o2)] [(.ref b3), (.ref b3)] 2 rfl (hb hy d20_25) (by decide)
  obtain ⟨b12_0, rfl, Nq12, K12, u12_0, u12_1, u12_2⟩ := hQ12
  have KK12 : Keep h0 T12.heap [] := KK3.trans K12 all0
  have OL12 := OL3.keep K12 all0
  have sz_b12_0 : h0.size ≤ b12_0 := Nat.le_trans KK3.1 u12_0
  have N12 := Fr.app N0 Nq12
  have fc16 := ((pr5.ext E3).keep K12 nin0)
  obtain ⟨T17, X17, e17, st17⟩ := gF X12 hx hZ ho (wd145 hw) Via.refl rfl fc16 29 #[rv a1] [(.ref b12_0), (.ref b3), (.ref b3)] (hb hy d20_29)
  have fc18 := (fc7.keep K12 nin0)
  obtain ⟨T19, X19, e19, st19⟩ := gF X17 hx hZ ho (wd152 hw) Via.refl e17 fc18 33 #[rv a1] [(.ref a15), (.ref b12_0), (.ref b3), (.ref b3)] (hb hy d20_33)
  have fc24 := ((pr6.ext E3).keep K12 nin0)
  have fc25 := ((pr7.ext E3).keep K12)
  obtain ⟨_, T23, L23, X23, hQ23, st23⟩ := own_cS X19 hx hZ ho hml (cw30 hw) (rm21_1 l Z a0 hw a15 q20 q21 k22 T12.heap n0 OL12 fc24 fc25) e19 36 #[rv a1] [(.ref a15), (.int o2)] [(.ref b12_0), (.ref b3), (.ref b3)] 3 rfl (hb hy d20_36) (by decide)
  obtain ⟨b23_0, rfl, Nq23, K23, u23_0, u23_1, u23_2⟩ := hQ23
  have KK23 : Keep h0 T23.heap [] := KK12.trans K23 all0
  have OL23 := OL12.keep K23 all0
  have sz_b23_0 : h0.size ≤ b23_0 := Nat.le_trans KK12.1 u23_0
  have N23 := Fr.app N12 Nq23
  have fc27 := ((A3.keep K12).keep K23)
  have fc28 := ((F_lows_b3.keep K12 nin0).keep K23 nin0)
  have fc29 := ((F_highs_b3.keep K12 nin0).keep K23 nin0)
  obtain ⟨_, T26, L26, X26, hQ26, st26⟩ := own_cM X23 hx hZ ho hml (cw31 hw) (rm7_0 l Z a0 hw b3 b12_0 b23_0 T23.heap n0 OL23 fc27 fc28 g_b3 fc29) rfl b3 39 #[rv a1] [(.ref b12_0), (.ref b23_0)] [(.ref b3)] 1 rfl (hb hy d20_39) (by decide)
  obtain ⟨rfl, Nq26, K26, u26_0, u26_1⟩ := hQ26
  have KK26 : Keep h0 T26.heap [] := KK23.trans K26 (allS (Or.inr sz_b3) all0)
  have OL26 := OL23.keep K26 (allS g_b3 all0)
  have N26 := Fr.app N23 Nq26
  obtain ⟨_, T30, L30, X30, hQ30, st30⟩ := own_cS X26 hx hZ ho hml (cw34 hw) (rm23_0 l Z a0 hw b3 T26.heap n0 OL26 ) rfl 42 #[rv a1] [(.ref b3)] [] 0 rfl (hb hy d20_42) (by decide)
  obtain ⟨b30_0, rfl, Nq30, K30, u30_0, u30_1, u30_2⟩ := hQ30
  have KK30 : Keep h0 T30.heap [] := KK26.trans K30 all0
  have sz_b30_0 : h0.size ≤ b30_0 := Nat.le_trans KK26.1 u30_0
  have N30 := Fr.app N26 Nq30
  have nz31 := nl u26_1.lt u30_0
  have lz32 := (lq (lq u12_2.lt K23.1) K26.1)
  have nz33 := nl lz32 u30_0
  have lz34 := (lq u23_2.lt K26.1)
  have nz35 := nl lz34 u30_0
  have nz36 := nl F_lows_b3.lt u12_0
  have lz37 := (lq F_lows_b3.lt K12.1)
  have nz38 := nl lz37 u23_0
  have nz39 := nl u12_2.lt u23_0
  have fc40 := ((fc27.keep K26).keep K30)
  have fc41 := (u26_0.keep K30 nin0)
  have fc42 := (u26_1.keep K30 nin0)
  have fc43 := (((u12_1.keep K23 nin0).keep K26 (ninS (Ne.symm nz36) nin0)).keep K30 nin0)
  have fc44 := (((u12_2.keep K23).keep K26).keep K30)
  have fc45 := ((u23_1.keep K26 (ninS (Ne.symm nz38) nin0)).keep K30 nin0)
  have fc46 := ((u23_2.keep K26).keep K30)
  refine ⟨some (.ref b30_0), _, _, _, _, _, X30, rfl, by decide, nofun, fun fs hr => ?_, ?_⟩
  · refine xaloadN X0 hx hy d20_0 rfl rfl ?_
    refine st2 _ ?_
    refine XS.ifYes X2.here hx rfl (pc0 := 4) (pc' := 13) rfl (hb hy d20_4) rfl ((if0 _ _).trans (feq (by decide : ¬ (o2 = o0))).2) (by decide) (by decide) ?_
    refine st3 _ ?_
    refine XS.dup X3.here hx rfl (hb hy d20_16) rfl rfl ?_
    refine xaloadN X3 hx hy d20_17 rfl rfl ?_
    refine st6 _ ?_
    refine xaloadN X6 hx hy d20_21 rfl rfl ?_
    refine st8 _ ?_
    refine st12 _ ?_
    refine xaloadN X12 hx hy d20_28 rfl rfl ?_
    refine st17 _ ?_
    refine xaloadN X17 hx hy d20_32 rfl rfl ?_
    refine st19 _ ?_
    refine st23 _ ?_
    refine st26 _ ?_
    refine st30 _ ?_
    show SS p e below T30 m 45 #[rv a1] [(.ref b30_0)] _
    exact own_retR X30 hx hret rfl rfl rfl (hb hy d20_45) hr
  · exact ⟨b30_0, b3, b12_0, b23_0, rfl, N30, KK30, sz_b30_0, sz_b3, sz_b12_0, sz_b23_0, (Ne.symm nz31), (Ne.symm nz33), (Ne.symm nz35), nz36, nz38, nz39, u30_1, u30_2, fc40, fc41, fc42, fc43, fc44, fc45, fc46⟩
theorem rm17_4 (l : Launch) (Z : State) (a0 : Array Value) (hw : HW a0 Z) (a1 a2 a4 : Addr) (q7 : Int64) (k8 : ClassId) (a11 : Addr) (q14 : Int64) (k15 : ClassId) (a33 : Addr) (q36 : Int64) (k37 : ClassId) (a45 : Addr) (q48 : Int64) (k49 : ClassId) (h0 : Heap) (n0 : Nat) (OL0 : Old Z n0 h0) (pr1 : Fld Z h0 a1 s43 "lows" "[J" (.ref a4)) (pr2 : Arv Z h0 a4 k8 .long o1 [(.long q7)] lj0) (pr3 : Fld Z h0 a2 s43 "lows" "[J" (.ref a11)) (pr4 : Arv Z h0 a11 k15 .long o1 [(.long q14)] lj0) (pr5 : Fld Z h0 a2 s43 "highs" "[J" (.ref a33)) (pr6 : Arv Z h0 a33 k37 .long o1 [(.long q36)] lj0) (pr7 : ¬ (q36 < q7)) (pr8 : Fld Z h0 a1 s43 "highs" "[J" (.ref a45)) (pr9 : Arv Z h0 a45 k49 .long o1 [(.long q48)] lj0) (pr10 : ¬ (q48 < q14)) (pr11 : ¬ (q48 < q7)) (pr12 : ¬ ((q14 - (1 : Int64)) < q7)) (pr13 : ¬ (q48 < (q36 + (1 : Int64)))) :
    MF l Z mn17 prog_63_method_5_code 8 (some (.object s32)) ⟨4, 7, 14, 50⟩ #[(.ref a1), (.ref a2)] h0 (fun v h L => ∃ b91_0 b91_1 b91_2 b91_3 : Addr, ∃ kx18_0 : ClassId, ∃ kx18_1 : ClassId, v = some (.ref b91_0) ∧ Fr n0 L ∧ Keep h0 h [] ∧ h0.size ≤ b91_0 ∧ h0.size ≤ b91_1 ∧ h0.size ≤ b91_2 ∧ h0.size ≤ b91_3 ∧ b91_0 ≠ b91_1 ∧ b91_0 ≠ b91_2 ∧ b91_0 ≠ b91_3 ∧ b91_1 ≠ b91_2 ∧ b91_1 ≠ b91_3 ∧ b91_2 ≠ b91_3 ∧ Exa Z h b91_0 s32 ∧ Fld Z h b91_0 s32 "value" s3 (.ref b91_1) ∧ Exa Z h b91_1 s43 ∧ Fld Z h b91_1 s43 "lows" "[J" (.ref b91_2) ∧ Fld Z h b91_1 s43 "highs" "[J" (.ref b91_3) ∧ Arv Z h b91_2 kx18_0 .long o2 [(.long q7), (.long (q36 + (1 : Int64)))] lj0 ∧ Exa Z h b91_2 "[J" ∧ Arv Z h b91_3 kx18_1 .long o2 [(.long (q14 - (1 : Int64))), (.long q48)] lj0 ∧ Exa Z h b91_3 "[J") := by
  refine own_start (plainFor_of_name pn_2) (fun m => (ef_17_35 m a1 a2)) ?_
  intro p e s m below meth c s₁ hZ hx hy hml ho hnm hret X0 e0
  have N0 := Fr.nil n0
  obtain ⟨T3, h3, X3, e3, E3, A3, D3, -, st3⟩ := newO X0 hx hZ ho (wd136 hw) (wd137 hw) (wd138 hw) e0 (g := (mkF m 0 #[rv a1, rv a2, uu, uu, uu, uu, uu, uu] [])) rfl (hb hy d17_0) (by decide) (by decide)
  obtain ⟨b3, g3⟩ : ∃ z, z = h0.size := ⟨_, rfl⟩
  rw [← g3] at A3 D3 st3
  have g_b3 : n0 ≤ b3 := (Nat.le_trans (Nat.le_trans (Nat.le_of_eq OL0.1.symm) OL0.2.1) (Nat.le_of_eq g3.symm))
  have sz_b3 : h0.size ≤ b3 := (Nat.le_trans (Keep.refl h0 []).1 (Nat.le_of_eq g3.symm))
  have KK3 : Keep h0 h3 [] := (Keep.refl h0 []).ext E3
  have OL3 := OL0.ext E3
  have F_lows_b3 : Fld Z h3 b3 s44 "lows" "[J" .null := D3 (Or.inr (wd144 hw)) (ty := (.array .long)) (by decide)
  have F_highs_b3 : Fld Z h3 b3 s44 "highs" "[J" .null := D3 (Or.inr (wd146 hw)) (ty := (.array .long)) (by decide)
  have F_count_b3 : Fld Z h3 b3 s44 "count" "I" vi0 := D3 (Or.inl (wd153 hw)) (ty := .int) (by decide)
  have fc5 := (pr1.ext E3)
  obtain ⟨T6, X6, e6, st6⟩ := gF X3 hx hZ ho (wd41 hw) Via.refl e3 fc5 5 #[rv a1, rv a2, uu, uu, uu, uu, uu, uu] [(.ref b3), (.ref b3)] (hb hy d17_5)
  have fc9 := (pr2.ext E3)
  obtain ⟨cl10, Ar10, -, Sz10, Nn10, -, -⟩ := id fc9
  have fc12 := (pr3.ext E3)
  obtain ⟨T13, X13, e13, st13⟩ := gF X6 hx hZ ho (wd41 hw) Via.refl e6 fc12 10 #[rv a1, rv a2, uu, uu, uu, uu, uu, uu] [vi1, (.ref b3), (.ref b3)] (hb hy d17_10)
  have fc16 := (pr4.ext E3)
  obtain ⟨cl17, Ar17, -, Sz17, Nn17, -, -⟩ := id fc16
  obtain ⟨_, T18, L18, X18, hQ18, st18⟩ := own_cN X13 hx hZ ho hml (cw27 hw) (rm18_0 l Z a0 hw b3 h3 n0 OL3 A3 F_lows_b3 g_b3 F_highs_b3 F_count_b3) e13 b3 15 #[rv a1, rv a2, uu, uu, uu, uu, uu, uu] [(.int o2)] [(.ref b3)] 1 rfl (hb hy d17_15) (by decide)
  obtain ⟨b18_0, b18_1, kx18_0, kx18_1, rfl, Nq18, K18, u18_0, u18_1, u18_2, u18_3, u18_4, u18_5, u18_6, u18_7, u18_8, u18_9⟩ := hQ18
  have KK18 : Keep h0 T18.heap [] := KK3.trans K18 (allS (Or.inr sz_b3) all0)
  have OL18 := OL3.keep K18 (allS g_b3 all0)
  have g_b18_0 : n0 ≤ b18_0 := Nat.le_trans (Nat.le_trans (Nat.le_of_eq OL3.1.symm) OL3.2.1) u18_0
  have sz_b18_0 : h0.size ≤ b18_0 := Nat.le_trans KK3.1 u18_0
  have g_b18_1 : n0 ≤ b18_1 := Nat.le_trans (Nat.le_trans (Nat.le_of_eq OL3.1.symm) OL3.2.1) u18_1
  have sz_b18_1 : h0.size ≤ b18_1 := Nat.le_trans KK3.1 u18_1
  have N18 := Fr.app N0 Nq18
  have nz19 := nl pr1.lt sz_b3
  have fc20 := (fc5.keep K18 (ninS nz19 nin0))
  obtain ⟨T21, X21, e21, st21⟩ := gF X18 hx hZ ho (wd41 hw) Via.refl rfl fc20 27 #[rv a1, rv a2, rv b3, iv o0, iv o0, uu, uu, uu] [vi0] (hb hy d17_27)
  have nz22 := nl pr2.lt sz_b3
  have fc23 := (fc9.keep K18 (ninS nz22 nin0))
  obtain ⟨cl24, Ar24, -, Sz24, Nn24, -, -⟩ := id fc23
  obtain ⟨T25, X25, e25, st25⟩ := gF X21 hx hZ ho (wd41 hw) Via.refl e21 fc20 35 #[rv a1, rv a2, rv b3, iv o0, iv o0, uu, uu, uu] [] (hb hy d17_35)
  have nz27 := nl pr3.lt sz_b3
  have fc28 := (fc12.keep K18 (ninS nz27 nin0))
  obtain ⟨T29, X29, e29, st29⟩ := gF X25 hx hZ ho (wd41 hw) Via.refl e25 fc28 45 #[rv a1, rv a2, rv b3, iv o0, iv o0, jv q7, sc, uu] [vi0] (hb hy d17_45)
  have nz30 := nl pr4.lt sz_b3
  have fc31 := (fc16.keep K18 (ninS nz30 nin0))
  obtain ⟨cl32, Ar32, -, Sz32, Nn32, -, -⟩ := id fc31
  have fc34 := ((pr5.ext E3).keep K18 (ninS nz27 nin0))
  obtain ⟨T35, X35, e35, st35⟩ := gF X29 hx hZ ho (wd43 hw) Via.refl e29 fc34 53 #[rv a1, rv a2, rv b3, iv o0, iv o0, jv q7, sc, uu] [] (hb hy d17_53)
  have nz38 := nl pr6.lt sz_b3
  have fc39 := ((pr6.ext E3).keep K18 (ninS nz38 nin0))
  obtain ⟨T41, X41, e41, st41⟩ := gF X35 hx hZ ho (wd41 hw) Via.refl e35 fc28 76 #[rv a1, rv a2, rv b3, iv o0, iv o0, jv q7, sc, iv o0] [vi0] (hb hy d17_76)
  obtain ⟨cl42, Ar42, -, Sz42, Nn42, -, -⟩ := id fc31
  obtain ⟨T43, X43, e43, st43⟩ := gF X41 hx hZ ho (wd41 hw) Via.refl e41 fc28 84 #[rv a1, rv a2, rv b3, iv o0, iv o0, jv q7, sc, iv o0] [] (hb hy d17_84)
  have fc46 := ((pr8.ext E3).keep K18 (ninS nz19 nin0))
  obtain ⟨T47, X47, e47, st47⟩ := gF X43 hx hZ ho (wd43 hw) Via.refl e43 fc46 91 #[rv a1, rv a2, rv b3, iv o0, iv o0, jv q7, sc, iv o0] [(.long q14)] (hb hy d17_91)
  have nz50 := nl pr9.lt sz_b3
  have fc51 := ((pr9.ext E3).keep K18 (ninS nz50 nin0))
  obtain ⟨T53, X53, e53, st53⟩ := gF X47 hx hZ ho (wd43 hw) Via.refl e47 fc46 104 #[rv a1, rv a2, rv b3, iv o0, iv o0, jv q7, sc, iv o0] [(.long q7)] (hb hy d17_104)
  obtain ⟨T55, X55, e55, st55⟩ := gF X53 hx hZ ho (wd41 hw) Via.refl e53 fc28 118 #[rv a1, rv a2, rv b3, iv o0, iv o0, jv q7, sc, iv o0] [(.long q7), (.ref b3)] (hb hy d17_118)
  have nz58 := nl F_lows_b3.lt u18_0
  have nz59 := nl F_lows_b3.lt u18_1
  have fc60 := (A3.keep K18)
  obtain ⟨_, T57, L57, X57, hQ57, st57⟩ := own_cV X55 hx hZ ho hml (cw28 hw) (rm19_0 l Z a0 hw b3 q7 (q14 - (1 : Int64)) b18_0 oj0 oj0 kx18_0 b18_1 oj0 oj0 kx18_1 T18.heap n0 OL18 pr12 u18_3 u18_5 u18_6 g_b18_0 u18_4 nz58 u18_8 (Ne.symm u18_2) g_b18_1 nz59 fc60 g_b3 u18_2 (Ne.symm nz58) (Ne.symm nz59)) e55 fc60 126 #[rv a1, rv a2, rv b3, iv o0, iv o0, jv q7, sc, iv o0] [(.long q7), (.long (q14 - (1 : Int64)))] [] 0 rfl (hb hy d17_126) (by decide)
  obtain ⟨rfl, Nq57, K57, u57_0, u57_1, u57_2, u57_3, u57_4⟩ := hQ57
  have KK57 : Keep h0 T57.heap [] := KK18.trans K57 (allS (Or.inr sz_b18_0) (allS (Or.inr sz_b18_1) (allS (Or.inr sz_b3) all0)))
  have OL57 := OL18.keep K57 (allS g_b18_0 (allS g_b18_1 (allS g_b3 all0)))
  have N57 := Fr.app N18 Nq57
  have nz61 := nl pr5.lt sz_b18_1
  have nz62 := nl pr5.lt sz_b18_0
  have fc63 := (fc34.keep K57 (ninS nz62 (ninS nz61 (ninS nz27 nin0))))
  obtain ⟨T64, X64, e64, st64⟩ := gF X57 hx hZ ho (wd43 hw) Via.refl rfl fc63 130 #[rv a1, rv a2, rv b3, iv o0, iv o0, jv q7, sc, iv o0] [] (hb hy d17_130)
  have nz65 := nl pr6.lt sz_b18_1
  have nz66 := nl pr6.lt sz_b18_0
  have fc67 := (fc39.keep K57 (ninS nz66 (ninS nz65 (ninS nz38 nin0))))
  have fc69 := (fc28.keep K57 (ninS nz62 (ninS nz61 (ninS nz27 nin0))))
  obtain ⟨T70, X70, e70, st70⟩ := gF X64 hx hZ ho (wd41 hw) Via.refl e64 fc69 76 #[rv a1, rv a2, rv b3, iv o0, iv o0, .val (.long (q36 + (1 : Int64))), sc, iv o1] [vi1] (hb hy d17_76)
  have nz71 := nl pr4.lt sz_b18_1
  have nz72 := nl pr4.lt sz_b18_0
  have fc73 := (fc31.keep K57 (ninS nz72 (ninS nz71 (ninS nz30 nin0))))
  obtain ⟨cl74, Ar74, -, Sz74, Nn74, -, -⟩ := id fc73
  have nz75 := nl pr8.lt sz_b18_1
  have nz76 := nl pr8.lt sz_b18_0
  have fc77 := (fc46.keep K57 (ninS nz76 (ninS nz75 (ninS nz19 nin0))))
  obtain ⟨T78, X78, e78, st78⟩ := gF X70 hx hZ ho (wd43 hw) Via.refl e70 fc77 150 #[rv a1, rv a2, rv b3, iv o0, iv o0, .val (.long (q36 + (1 : Int64))), sc, iv o1] [(.long (q36 + (1 : Int64))), (.ref b3)] (hb hy d17_150)
  have nz79 := nl pr9.lt sz_b18_1
  have nz80 := nl pr9.lt sz_b18_0
  have fc81 := (fc51.keep K57 (ninS nz80 (ninS nz79 (ninS nz50 nin0))))
  have fc84 := (fc60.keep K57)
  obtain ⟨_, T83, L83, X83, hQ83, st83⟩ := own_cV X78 hx hZ ho hml (cw28 hw) (rm19_2 l Z a0 hw b3 (q36 + (1 : Int64)) q48 b18_0 q7 oj0 kx18_0 b18_1 (q14 - (1 : Int64)) oj0 kx18_1 T57.heap n0 OL57 pr13 u57_2 u57_3 u57_0 g_b18_0 u57_4 nz58 u57_1 (Ne.symm u18_2) g_b18_1 nz59 fc84 g_b3 u18_2 (Ne.symm nz58) (Ne.symm nz59)) e78 fc84 156 #[rv a1, rv a2, rv b3, iv o0, iv o0, .val (.long (q36 + (1 : Int64))), sc, iv o1] [(.long (q36 + (1 : Int64))), (.long q48)] [] 0 rfl (hb hy d17_156) (by decide)
  obtain ⟨rfl, Nq83, K83, u83_0, u83_1, u83_2, u83_3, u83_4⟩ := hQ83
  have KK83 : Keep h0 T83.heap [] := KK57.trans K83 (allS (Or.inr sz_b18_0) (allS (Or.inr sz_b18_1) (allS (Or.inr sz_b3) all0)))
  have OL83 := OL57.keep K83 (allS g_b18_0 (allS g_b18_1 (allS g_b3 all0)))
  have N83 := Fr.app N57 Nq83
  have fc85 := ((fc20.keep K57 (ninS nz76 (ninS nz75 (ninS nz19 nin0)))).keep K83 (ninS nz76 (ninS nz75 (ninS nz19 nin0))))
  obtain ⟨T86, X86, e86, st86⟩ := gF X83 hx hZ ho (wd41 hw) Via.refl rfl fc85 27 #[rv a1, rv a2, rv b3, iv o0, iv o1, .val (.long (q36 + (1 : Int64))), sc, iv o1] [vi1] (hb hy d17_27)
  have nz87 := nl pr2.lt sz_b18_1
  have nz88 := nl pr2.lt sz_b18_0
  have fc89 := ((fc23.keep K57 (ninS nz88 (ninS nz87 (ninS nz22 nin0)))).keep K83 (ninS nz88 (ninS nz87 (ninS nz22 nin0))))
  obtain ⟨cl90, Ar90, -, Sz90, Nn90, -, -⟩ := id fc89
  have fc92 := ((u18_7.keep K57).keep K83)
  have fc93 := ((u18_9.keep K57).keep K83)
  have fc94 := (fc84.keep K83)
  obtain ⟨_, T91, L91, X91, hQ91, st91⟩ := own_cV X86 hx hZ ho hml (cw35 hw) (rm20_2 l Z a0 hw b3 b18_0 q7 (q36 + (1 : Int64)) kx18_0 b18_1 (q14 - (1 : Int64)) q48 kx18_1 T83.heap n0 OL83 u83_3 u83_2 u83_0 fc92 u83_4 u83_1 fc93) e86 fc94 166 #[rv a1, rv a2, rv b3, iv o0, iv o1, .val (.long (q36 + (1 : Int64))), sc, iv o1] [] [] 0 rfl (hb hy d17_166) (by decide)
  obtain ⟨b91_0, b91_1, b91_2, b91_3, rfl, Nq91, K91, u91_0, u91_1, u91_2, u91_3, u91_4, u91_5, u91_6, u91_7, u91_8, u91_9, u91_10, u91_11, u91_12, u91_13, u91_14, u91_15, u91_16, u91_17, u91_18⟩ := hQ91
  have KK91 : Keep h0 T91.heap [] := KK83.trans K91 all0
  have sz_b91_0 : h0.size ≤ b91_0 := Nat.le_trans KK83.1 u91_0
  have sz_b91_1 : h0.size ≤ b91_1 := Nat.le_trans KK83.1 u91_1
  have sz_b91_2 : h0.size ≤ b91_2 := Nat.le_trans KK83.1 u91_2
  have sz_b91_3 : h0.size ≤ b91_3 := Nat.le_trans KK83.1 u91_3
  have N91 := Fr.app N83 Nq91
  refine ⟨some (.ref b91_0), _, _, _, _, _, X91, rfl, by decide, nofun, fun fs hr => ?_, ?_⟩
  · refine st3 _ ?_
    refine XS.dup X3.here hx rfl (hb hy d17_3) rfl rfl ?_
    refine xaloadN X3 hx hy d17_4 rfl rfl ?_
    refine st6 _ ?_
    refine X6.arraylength hx (by rw [e6]; exact Ar10.1) (State.isArrayOf_alike hZ.alike Ar10.2.1) (g := (mkF m 8 #[rv a1, rv a2, uu, uu, uu, uu, uu, uu] [(.ref a4), (.ref b3), (.ref b3)])) rfl rfl (hb hy d17_8) _ ?_
    rw [len_of Sz10 Nn10]
    refine xaloadN X6 hx hy d17_9 rfl rfl ?_
    refine st13 _ ?_
    refine X13.arraylength hx (by rw [e13]; exact Ar17.1) (State.isArrayOf_alike hZ.alike Ar17.2.1) (g := (mkF m 13 #[rv a1, rv a2, uu, uu, uu, uu, uu, uu] [(.ref a11), vi1, (.ref b3), (.ref b3)])) rfl rfl (hb hy d17_13) _ ?_
    rw [len_of Sz17 Nn17]
    refine XS.iadd X13.here hx rfl (hb hy d17_14) rfl ?_
    refine st18 _ ?_
    refine XS.astoreN X18.here hx rfl (hb hy d17_18) rfl rfl (l' := #[rv a1, rv a2, rv b3, uu, uu, uu, uu, uu]) rfl ?_
    refine XS.iconst X18.here hx rfl (hb hy d17_19) ?_
    refine XS.istoreN X18.here hx rfl (hb hy d17_20) rfl (l' := #[rv a1, rv a2, rv b3, iv o0, uu, uu, uu, uu]) rfl ?_
    refine XS.iconst X18.here hx rfl (hb hy d17_21) ?_
    refine XS.istore X18.here hx rfl (hb hy d17_22) rfl (l' := #[rv a1, rv a2, rv b3, iv o0, iv o0, uu, uu, uu]) rfl ?_
    refine xiload X18 hx hy d17_24 rfl ?_
    refine xaloadN X18 hx hy d17_26 rfl rfl ?_
    refine st21 _ ?_
    refine X21.arraylength hx (by rw [e21]; exact Ar24.1) (State.isArrayOf_alike hZ.alike Ar24.2.1) (g := (mkF m 30 #[rv a1, rv a2, rv b3, iv o0, iv o0, uu, uu, uu] [(.ref a4), vi0])) rfl rfl (hb hy d17_30) _ ?_
    rw [len_of Sz24 Nn24]
    refine XS.icmpNo X21.here hx rfl (hb hy d17_31) rfl (tlt (by decide : o0 < o1)).2.1 ?_
    refine xaloadN X21 hx hy d17_34 rfl rfl ?_
    refine st25 _ ?_
    refine xiload X25 hx hy d17_38 rfl ?_
    refine own_laJ X25 hx hZ e25 fc23 (v := (.long q7)) (by decide) rfl (hb hy d17_40) ?_
    refine XS.lstore X25.here hx rfl (hb hy d17_41) rfl (l' := #[rv a1, rv a2, rv b3, iv o0, iv o0, jv q7, sc, uu]) rfl ?_
    refine xiloadN X25 hx hy d17_43 rfl ?_
    refine xaloadN X25 hx hy d17_44 rfl rfl ?_
    refine st29 _ ?_
    refine X29.arraylength hx (by rw [e29]; exact Ar32.1) (State.isArrayOf_alike hZ.alike Ar32.2.1) (g := (mkF m 48 #[rv a1, rv a2, rv b3, iv o0, iv o0, jv q7, sc, uu] [(.ref a11), vi0])) rfl rfl (hb hy d17_48) _ ?_
    rw [len_of Sz32 Nn32]
    refine XS.icmpNo X29.here hx rfl (hb hy d17_49) rfl (tlt (by decide : o0 < o1)).2.1 ?_
    refine xaloadN X29 hx hy d17_52 rfl rfl ?_
    refine st35 _ ?_
    refine xiloadN X35 hx hy d17_56 rfl ?_
    refine own_laJ X35 hx hZ e35 fc39 (v := (.long q36)) (by decide) rfl (hb hy d17_57) ?_
    refine xlload X35 hx hy d17_58 rfl ?_
    refine XS.lcmp X35.here hx rfl (hb hy d17_60) rfl ?_
    refine XS.ifYes X35.here hx rfl (pc0 := 61) (pc' := 70) rfl (hb hy d17_61) rfl ((if0 _ _).trans (flt ((fun z => pr7 ((lw_lt q36 q7).mp z)) : ¬ ((lcmpW q36 q7) < o0))).2.1) (by decide) (by decide) ?_
    refine xiloadN X35 hx hy d17_70 rfl ?_
    refine XS.istore X35.here hx rfl (hb hy d17_71) rfl (l' := #[rv a1, rv a2, rv b3, iv o0, iv o0, jv q7, sc, iv o0]) rfl ?_
    refine xiload X35 hx hy d17_73 rfl ?_
    refine xaloadN X35 hx hy d17_75 rfl rfl ?_
    refine st41 _ ?_
    refine X41.arraylength hx (by rw [e41]; exact Ar42.1) (State.isArrayOf_alike hZ.alike Ar42.2.1) (g := (mkF m 79 #[rv a1, rv a2, rv b3, iv o0, iv o0, jv q7, sc, iv o0] [(.ref a11), vi0])) rfl rfl (hb hy d17_79) _ ?_
    rw [len_of Sz42 Nn42]
    refine XS.icmpNo X41.here hx rfl (hb hy d17_80) rfl (tlt (by decide : o0 < o1)).2.1 ?_
    refine xaloadN X41 hx hy d17_83 rfl rfl ?_
    refine st43 _ ?_
    refine xiload X43 hx hy d17_87 rfl ?_
    refine own_laJ X43 hx hZ e43 fc31 (v := (.long q14)) (by decide) rfl (hb hy d17_89) ?_
    refine xaloadN X43 hx hy d17_90 rfl rfl ?_
    refine st47 _ ?_
    refine xiload X47 hx hy d17_94 rfl ?_
    show SS p e below T47 m 96 #[rv a1, rv a2, rv b3, iv o0, iv o0, jv q7, sc, iv o0] [vi0, (.ref a45), (.long q14)] _
    refine own_laJ X47 hx hZ e47 fc51 (v := (.long q48)) (by decide) rfl (hb hy d17_96) ?_
    refine XS.lcmp X47.here hx rfl (hb hy d17_97) rfl ?_
    refine XS.ifNo X47.here hx rfl (hb hy d17_98) rfl ((if0 _ _).trans (flt ((fun z => pr10 ((lw_gt q14 q48).mp z)) : ¬ (o0 < (lcmpW q14 q48)))).2.2.1) ?_
    refine xlload X47 hx hy d17_101 rfl ?_
    refine xaloadN X47 hx hy d17_103 rfl rfl ?_
    refine st53 _ ?_
    refine xiload X53 hx hy d17_107 rfl ?_
    refine own_laJ X53 hx hZ e53 fc51 (v := (.long q48)) (by decide) rfl (hb hy d17_109) ?_
    refine XS.lcmp X53.here hx rfl (hb hy d17_110) rfl ?_
    refine XS.ifNo X53.here hx rfl (hb hy d17_111) rfl ((if0 _ _).trans (flt ((fun z => pr11 ((lw_gt q7 q48).mp z)) : ¬ (o0 < (lcmpW q7 q48)))).2.2.1) ?_
    refine xaloadN X53 hx hy d17_114 rfl rfl ?_
    refine xlload X53 hx hy d17_115 rfl ?_
    refine xaloadN X53 hx hy d17_117 rfl rfl ?_
    refine st55 _ ?_
    refine xiload X55 hx hy d17_121 rfl ?_
    refine own_laJ X55 hx hZ e55 fc31 (v := (.long q14)) (by decide) rfl (hb hy d17_123) ?_
    refine XS.lconst X55.here hx rfl (hb hy d17_124) ?_
    refine XS.lsub X55.here hx rfl (hb hy d17_125) rfl ?_
    refine st57 _ ?_
    refine xaloadN X57 hx hy d17_129 rfl rfl ?_
    refine st64 _ ?_
    refine xiload X64 hx hy d17_133 rfl ?_
    refine own_laJ X64 hx hZ e64 fc67 (v := (.long q36)) (by decide) rfl (hb hy d17_135) ?_
    refine XS.lconst X64.here hx rfl (hb hy d17_136) ?_
    refine XS.ladd X64.here hx rfl (hb hy d17_137) rfl ?_
    refine XS.lstore X64.here hx rfl (hb hy d17_138) rfl (l' := #[rv a1, rv a2, rv b3, iv o0, iv o0, .val (.long (q36 + (1 : Int64))), sc, iv o0]) rfl ?_
    refine XS.iinc X64.here hx rfl (hb hy d17_140) rfl (l' := #[rv a1, rv a2, rv b3, iv o0, iv o0, .val (.long (q36 + (1 : Int64))), sc, .val (.int (o0 + o1))]) rfl ?_
    refine XS.goto X64.here hx rfl (pc0 := 143) (pc' := 73) rfl (hb hy d17_143) (by decide) (by decide) ?_
    refine xiload X64 hx hy d17_73 rfl ?_
    refine xaloadN X64 hx hy d17_75 rfl rfl ?_
    refine st70 _ ?_
    refine X70.arraylength hx (by rw [e70]; exact Ar74.1) (State.isArrayOf_alike hZ.alike Ar74.2.1) (g := (mkF m 79 #[rv a1, rv a2, rv b3, iv o0, iv o0, .val (.long (q36 + (1 : Int64))), sc, iv o1] [(.ref a11), vi1])) rfl rfl (hb hy d17_79) _ ?_
    rw [len_of Sz74 Nn74]
    refine XS.icmpYes X70.here hx rfl (pc0 := 80) (pc' := 146) rfl (hb hy d17_80) rfl (flt (by decide : ¬ (o1 < o1))).2.1 (by decide) (by decide) ?_
    refine xaloadN X70 hx hy d17_146 rfl rfl ?_
    refine xlload X70 hx hy d17_147 rfl ?_
    refine xaloadN X70 hx hy d17_149 rfl rfl ?_
    refine st78 _ ?_
    refine xiload X78 hx hy d17_153 rfl ?_
    refine own_laJ X78 hx hZ e78 fc81 (v := (.long q48)) (by decide) rfl (hb hy d17_155) ?_
    refine st83 _ ?_
    refine XS.iinc X83.here hx rfl (hb hy d17_159) rfl (l' := #[rv a1, rv a2, rv b3, iv o0, .val (.int (o0 + o1)), .val (.long (q36 + (1 : Int64))), sc, iv o1]) rfl ?_
    refine XS.goto X83.here hx rfl (pc0 := 162) (pc' := 24) rfl (hb hy d17_162) (by decide) (by decide) ?_
    refine xiload X83 hx hy d17_24 rfl ?_
    refine xaloadN X83 hx hy d17_26 rfl rfl ?_
    refine st86 _ ?_
    refine X86.arraylength hx (by rw [e86]; exact Ar90.1) (State.isArrayOf_alike hZ.alike Ar90.2.1) (g := (mkF m 30 #[rv a1, rv a2, rv b3, iv o0, iv o1, .val (.long (q36 + (1 : Int64))), sc, iv o1] [(.ref a4), vi1])) rfl rfl (hb hy d17_30) _ ?_
    rw [len_of Sz90 Nn90]
    refine XS.icmpYes X86.here hx rfl (pc0 := 31) (pc' := 165) rfl (hb hy d17_31) rfl (flt (by decide : ¬ (o1 < o1))).2.1 (by decide) (by decide) ?_
    refine xaloadN X86 hx hy d17_165 rfl rfl ?_
    refine st91 _ ?_
    show SS p e below T91 m 169 #[rv a1, rv a2, rv b3, iv o0, iv o1, .val (.long (q36 + (1 : Int64))), sc, iv o1] [(.ref b91_0)] _
    exact own_retR X91 hx hret rfl rfl rfl (hb hy d17_169) hr
  · exact ⟨b91_0, b91_1, b91_2, b91_3, kx18_0, kx18_1, rfl, N91, KK91, sz_b91_0, sz_b91_1, sz_b91_2, sz_b91_3, u91_4, u91_5, u91_6, u91_7, u91_8, u91_9, u91_10, u91_11, u91_12, u91_13, u91_14, u91_15, u91_16, u91_17, u91_18⟩
theorem rm14_4 (l : Launch) (Z : State) (a0 : Array Value) (hw : HW a0 Z) (a1 : Addr) (p2 : Int32) (a3 w4 w6 w7 : Addr) (k8 : ClassId) (q11 : Int64) (a13 : Addr) (q14 : Int64) (k15 : ClassId) (a16 : Addr) (q17 : Int64) (k18 : ClassId) (p24 : Int32) (a31 : Addr) (k32 : ClassId) (a41 a44 : Addr) (p47 : Int32) (h0 : Heap) (n0 : Nat) (OL0 : Old Z n0 h0) (pr1 : Sta Z Z.heap s45 s2 s5 (.ref w4)) (pr2 : Fld Z Z.heap w4 s29 s13 s7 (.ref w6)) (pr3 : Asl Z Z.heap w6 k8 (.object s20) o12 p2 (.ref w7)) (pr4 : Exa Z Z.heap w4 s29) (pr5 : Exa Z Z.heap w7 s42) (pr6 : Fld Z Z.heap w7 s42 "low" "J" lj0) (pr7 : Fld Z Z.heap w7 s42 "high" "J" (.long q11)) (pr8 : ¬ (q11 < oj0)) (pr9 : ¬ ((281474976710656 : Int64) < q11)) (pr10 : Fld Z h0 a3 s43 "lows" "[J" (.ref a13)) (pr11 : Arv Z h0 a13 k15 .long o1 [(.long q14)] lj0) (pr12 : Fld Z h0 a3 s43 "highs" "[J" (.ref a16)) (pr13 : Arv Z h0 a16 k18 .long o1 [(.long q17)] lj0) (pr14 : ¬ (q17 < oj0)) (pr15 : ¬ (q11 < q14)) (pr16 : ¬ ((q14 - (1 : Int64)) < oj0)) (pr17 : ¬ (q11 < (q17 + (1 : Int64)))) (pr18 : Fld Z h0 a1 s45 s15 "Z" (.int p24)) (pr19 : Exa Z h0 a1 s45) (pr20 : n0 ≤ a1) (pr21 : Fld Z h0 a1 s45 "sets" s8 (.ref a31)) (pr22 : Asl Z h0 a31 k32 tV o12 p2 .null) (pr23 : a31 ≠ a1) (pr24 : n0 ≤ a31) (pr25 : Ovr Z k32 s43) (pr26 : Fld Z h0 a1 s45 s11 s5 (.ref a41)) (pr27 : a1 ≠ a31) (pr28 : Fld Z h0 a1 s45 s16 s5 (.ref a44)) (pr29 : Fld Z h0 a1 s45 s48 "Z" (.int p47)) :
    MF l Z mn14 prog_66_method_6_code 4 none ⟨5, 11, 20, 3075⟩ #[(.ref a1), (.int p2), (.ref a3)] h0 (fun v h L => ∃ b19_1 b19_2 b19_3 : Addr, ∃ kx19_0 : ClassId, ∃ kx19_1 : ClassId, v = none ∧ Fr n0 L ∧ Keep h0 h [a1, a31] ∧ h0.size ≤ b19_1 ∧ h0.size ≤ b19_2 ∧ h0.size ≤ b19_3 ∧ b19_1 ≠ b19_2 ∧ b19_1 ≠ b19_3 ∧ b19_2 ≠ b19_3 ∧ Fld Z h a1 s45 s15 "Z" (.int (nar .boolean (p24 ||| o0))) ∧ Fld Z h a1 s45 "sets" s8 (.ref a31) ∧ Fld Z h a1 s45 s11 s5 (.ref a41) ∧ Fld Z h a1 s45 s16 s5 (.ref a44) ∧ Fld Z h a1 s45 s48 "Z" (.int p47) ∧ Asl Z h a31 k32 tV o12 p2 (.ref b19_1) ∧ Exa Z h b19_1 s43 ∧ Fld Z h b19_1 s43 "lows" "[J" (.ref b19_2) ∧ Fld Z h b19_1 s43 "highs" "[J" (.ref b19_3) ∧ Arv Z h b19_2 kx19_0 .long o2 [lj0, (.long (q17 + (1 : Int64)))] lj0 ∧ Exa Z h b19_2 "[J" ∧ Arv Z h b19_3 kx19_1 .long o2 [(.long (q14 - (1 : Int64))), (.long q11)] lj0 ∧ Exa Z h b19_3 "[J") := by
  refine own_startN (plainFor_of_name pn_7) (fun m => (ef_14_39 m a1 p2 a3)) ?_
  intro p e s m below meth c s₁ hZ hx hy hml ho hnm hnamed hret X0 e0
  have N0 := Fr.nil n0
  obtain ⟨T5, X5, e5, st5⟩ := getS2 X0 hx hZ ho (host := "") (Or.inl (wd52 hw)) Via.refl e0 (pr1.ext OL0.2) (g := (mkF m 0 #[rv a1, iv p2, rv a3, uu] [])) rfl (hb hy d14_0)
  obtain ⟨_, T9, L9, X9, hQ9, st9⟩ := own_cI X5 hx hZ ho hml (cw24 hw) (rm15_0 l Z a0 hw w4 p2 w6 w7 k8 h0 n0 OL0 pr2 pr3) e5 (pr4.ext OL0.2) 4 #[rv a1, iv p2, rv a3, uu] [(.int p2)] [] 0 rfl (hb hy d14_4) (by decide)
  obtain ⟨rfl, Nq9, ec9⟩ := hQ9
  have N9 := Fr.app N0 Nq9
  obtain ⟨T10, X10, e10, st10⟩ := castY X9 hx hZ ho (wd118 hw) ec9 (Ins.self (pr5.ext OL0.2)) (g := (mkF m 9 #[rv a1, iv p2, rv a3, uu] [(.ref w7)])) rfl rfl (hb hy d14_9)
  obtain ⟨_, T12, L12, X12, hQ12, st12⟩ := own_cV X10 hx hZ ho hml (cw26 hw) (rm16_0 l Z a0 hw w7 q11 h0 n0 OL0 pr6 pr7 pr8 pr9) e10 (pr5.ext OL0.2) 12 #[rv a1, iv p2, rv a3, uu] [] [] 0 rfl (hb hy d14_12) (by decide)
  obtain ⟨b12_0, b12_1, b12_2, kx12_0, kx12_1, rfl, Nq12, K12, u12_0, u12_1, u12_2, u12_3, u12_4, u12_5, u12_6, u12_7, u12_8, u12_9, u12_10, u12_11, u12_12⟩ := hQ12
  have KK12 : Keep h0 T12.heap [a1, a31] := (Keep.refl h0 [a1, a31]).trans K12 all0
  have OL12 := OL0.keep K12 all0
  have N12 := Fr.app N9 Nq12
  have fc20 := (pr10.keep K12 nin0)
  have fc21 := (pr11.keep K12 nin0)
  have fc22 := (pr12.keep K12 nin0)
  have fc23 := (pr13.keep K12 nin0)
  obtain ⟨_, T19, L19, X19, hQ19, st19⟩ := own_cV X12 hx hZ ho hml (cw36 hw) (rm17_4 l Z a0 hw b12_0 a3 b12_1 oj0 kx12_0 a13 q14 k15 a16 q17 k18 b12_2 q11 kx12_1 T12.heap n0 OL12 u12_7 u12_9 fc20 fc21 fc22 fc23 pr14 u12_8 u12_11 pr15 pr8 pr16 pr17) rfl u12_6 16 #[rv a1, iv p2, rv a3, uu] [(.ref a3)] [] 0 rfl (hb hy d14_16) (by decide)
  obtain ⟨b19_0, b19_1, b19_2, b19_3, kx19_0, kx19_1, rfl, Nq19, K19, u19_0, u19_1, u19_2, u19_3, u19_4, u19_5, u19_6, u19_7, u19_8, u19_9, u19_10, u19_11, u19_12, u19_13, u19_14, u19_15, u19_16, u19_17, u19_18⟩ := hQ19
  have KK19 : Keep h0 T19.heap [a1, a31] := KK12.trans K19 all0
  have OL19 := OL12.keep K19 all0
  have sz_b19_0 : h0.size ≤ b19_0 := Nat.le_trans KK12.1 u19_0
  have sz_b19_1 : h0.size ≤ b19_1 := Nat.le_trans KK12.1 u19_1
  have sz_b19_2 : h0.size ≤ b19_2 := Nat.le_trans KK12.1 u19_2
  have sz_b19_3 : h0.size ≤ b19_3 := Nat.le_trans KK12.1 u19_3
  have N19 := Fr.app N12 Nq19
  have fc25 := ((pr18.keep K12 nin0).keep K19 nin0)
  obtain ⟨T26, X26, e26, st26⟩ := gF X19 hx hZ ho (wd190 hw) Via.refl rfl fc25 22 #[rv a1, iv p2, rv a3, rv b19_0] [(.ref a1)] (hb hy d14_22)
  obtain ⟨_, T27, L27, X27, hQ27, st27⟩ := own_cV X26 hx hZ ho hml (cw37 hw) (rm26_0 l Z a0 hw b19_0 b19_1 T19.heap n0 OL19 u19_11) e26 u19_10 26 #[rv a1, iv p2, rv a3, rv b19_0] [] [(.int p24), (.ref a1)] 2 rfl (hb hy d14_26) (by decide)
  obtain ⟨rfl, Nq27, ec27⟩ := hQ27
  have N27 := Fr.app N19 Nq27
  have fc28 := ((pr19.keep K12).keep K19)
  obtain ⟨T29, h29, X29, e29, W29, st29⟩ := putFN X27 hx hZ ho (wd190 hw) Via.refl ec27 fc25 fc28 (Or.inl (wd191 hw)) (wd46 hw) (ty := .boolean) (v' := (.int (nar .boolean (p24 ||| o0)))) (by decide) rfl (fits_nar_bool _) (g := (mkF m 30 #[rv a1, iv p2, rv a3, rv b19_0] [(.int (p24 ||| o0)), (.ref a1)])) rfl rfl (hb hy d14_30)
  have Fw29 := fc25.same W29
  have KK29 : Keep h0 h29 [a1, a31] := KK19.wr W29 (Or.inl (List.mem_of_getElem? (i := 0) rfl))
  have OL29 := OL19.wr W29 pr20
  have N29 := Fr.snoc X29 N27 pr20
  obtain ⟨T30, h30, X30, e30, E30, LM30, st30⟩ := own_mk X29 hx hZ hml hnamed (wd197 hw) (wd200 hw) own_lok1 rfl rfl e29 a1 p2 #[rv a1, iv p2, rv a3, rv b19_0] [(.ref b19_0)] rfl (hb hy d14_36) (by decide) (by decide) (W := 1) rfl (by decide)
  obtain ⟨b30, g30⟩ : ∃ z, z = h29.size := ⟨_, rfl⟩
  rw [← g30] at LM30 st30
  have KK30 : Keep h0 h30 [a1, a31] := KK29.ext E30
  have OL30 := OL29.ext E30
  have nz34 := nl pr19.lt sz_b19_0
  have fc35 := ((u19_11.other W29 (Or.inl (Ne.symm nz34))).ext E30)
  have fc36 := ((((pr21.keep K12 nin0).keep K19 nin0).other W29 (Or.inr (slot_ne (Or.inr (wd69 hw)) (Or.inl (wd191 hw)) (by decide) (t := (.array tV)) (t' := .boolean) (by decide) (by decide)))).ext E30)
  have fc37 := ((((pr22.keep K12 nin0).keep K19 nin0).other W29 pr23).ext E30)
  have fc38 := ((u19_12.wr W29).ext E30)
  have fc39 := ((fc28.wr W29).ext E30)
  have fc40 := ((u19_10.wr W29).ext E30)
  obtain ⟨_, T33, L33, X33, hQ33, st33⟩ := own_cV X30 hx hZ ho hml (cw39 hw) (rm27_0 l Z a0 hw b19_0 b30 b19_1 a1 p2 a31 k32 h30 n0 OL30 fc35 LM30 fc36 fc37 pr24 pr25 fc38 fc39) e30 fc40 41 #[rv a1, iv p2, rv a3, rv b19_0] [(.ref b30)] [] 0 rfl (hb hy d14_41) (by decide)
  obtain ⟨rfl, Nq33, K33, u33_0⟩ := hQ33
  have KK33 : Keep h0 T33.heap [a1, a31] := KK30.trans K33 (allS (Or.inl (List.mem_of_getElem? (i := 1) rfl)) all0)
  have N33 := Fr.app N29 Nq33
  have fc42 := (((((pr26.keep K12 nin0).keep K19 nin0).other W29 (Or.inr (slot_ne (Or.inr (wd97 hw)) (Or.inl (wd191 hw)) (by decide) (t := (.object s30)) (t' := .boolean) (by decide) (by decide)))).ext E30).keep K33 (ninS pr27 nin0))
  have fc43 := ((Fw29.ext E30).keep K33 (ninS pr27 nin0))
  have fc45 := (((((pr28.keep K12 nin0).keep K19 nin0).other W29 (Or.inr (slot_ne (Or.inr (wd95 hw)) (Or.inl (wd191 hw)) (by decide) (t := (.object s30)) (t' := .boolean) (by decide) (by decide)))).ext E30).keep K33 (ninS pr27 nin0))
  have fc46 := (fc36.keep K33 (ninS pr27 nin0))
  have fc48 := (((((pr29.keep K12 nin0).keep K19 nin0).other W29 (Or.inr (slot_ne (Or.inl (wd104 hw)) (Or.inl (wd191 hw)) (by decide) (t := .boolean) (t' := .boolean) (by decide) (by decide)))).ext E30).keep K33 (ninS pr27 nin0))
  have fc49 := (fc38.keep K33)
  have nz50 := nl pr29.lt sz_b19_1
  have nz51 := nl pr22.lt sz_b19_1
  have fc52 := (((u19_13.other W29 (Or.inl (Ne.symm nz50))).ext E30).keep K33 (ninS (Ne.symm nz51) nin0))
  have fc53 := (((u19_14.other W29 (Or.inl (Ne.symm nz50))).ext E30).keep K33 (ninS (Ne.symm nz51) nin0))
  have nz54 := nl pr29.lt sz_b19_2
  have nz55 := nl pr22.lt sz_b19_2
  have fc56 := (((u19_15.other W29 (Ne.symm nz54)).ext E30).keep K33 (ninS (Ne.symm nz55) nin0))
  have fc57 := (((u19_16.wr W29).ext E30).keep K33)
  have nz58 := nl pr29.lt sz_b19_3
  have nz59 := nl pr22.lt sz_b19_3
  have fc60 := (((u19_17.other W29 (Ne.symm nz58)).ext E30).keep K33 (ninS (Ne.symm nz59) nin0))
  have fc61 := (((u19_18.wr W29).ext E30).keep K33)
  refine ⟨none, _, _, _, _, _, X33, rfl, by decide, fun _ => rfl, fun fs hr => ?_, ?_⟩
  · refine st5 _ ?_
    refine xiloadN X5 hx hy d14_3 rfl ?_
    refine st9 _ ?_
    refine st10 _ ?_
    refine st12 _ ?_
    refine xaloadN X12 hx hy d14_15 rfl rfl ?_
    refine st19 _ ?_
    refine XS.astoreN X19.here hx rfl (hb hy d14_19) rfl rfl (l' := #[rv a1, iv p2, rv a3, rv b19_0]) rfl ?_
    refine xaloadN X19 hx hy d14_20 rfl rfl ?_
    refine XS.dup X19.here hx rfl (hb hy d14_21) rfl rfl ?_
    refine st26 _ ?_
    refine xaloadN X26 hx hy d14_25 rfl rfl ?_
    refine st27 _ ?_
    refine XS.ior X27.here hx rfl (hb hy d14_29) rfl ?_
    refine st29 _ ?_
    refine xaloadN X29 hx hy d14_33 rfl rfl ?_
    refine xaloadN X29 hx hy d14_34 rfl rfl ?_
    refine xiloadN X29 hx hy d14_35 rfl ?_
    refine st30 _ ?_
    refine st33 _ ?_
    show SS p e below T33 m 44 #[rv a1, iv p2, rv a3, rv b19_0] [] _
    exact X33.returnOut hx hret (hb hy d14_44) hr
  · exact ⟨b19_1, b19_2, b19_3, kx19_0, kx19_1, rfl, N33, KK33, sz_b19_1, sz_b19_2, sz_b19_3, u19_7, u19_8, u19_9, fc43, fc46, fc42, fc45, fc48, u33_0, fc49, fc52, fc53, fc56, fc57, fc60, fc61⟩
theorem ef_18_45 (m : MethodId) (x0 : Addr) : entryFrame m #[(.ref x0), (.int (3 : Int32))] 2 = mkF m 0 #[.val (.ref x0), .val (.int (3 : Int32))] [] := by first | (simp [entryFrame, mkF, argsToLocals, Value.category]; done) | rfl
theorem rm18_1 (l : Launch) (Z : State) (a0 : Array Value) (hw : HW a0 Z) (a1 : Addr) (h0 : Heap) (n0 : Nat) (OL0 : Old Z n0 h0) (pr1 : Exa Z h0 a1 s44) (pr2 : Fld Z h0 a1 s44 "lows" "[J" .null) (pr3 : n0 ≤ a1) (pr4 : Fld Z h0 a1 s44 "highs" "[J" .null) (pr5 : Fld Z h0 a1 s44 "count" "I" vi0) :
    MF l Z mn18 prog_64_method_1_code 2 none ⟨1, 2, 6, 12⟩ #[(.ref a1), (.int (3 : Int32))] h0 (fun v h L => ∃ b3 b7 : Addr, ∃ k3 : ClassId, ∃ k7 : ClassId, v = none ∧ Fr n0 L ∧ Keep h0 h [a1] ∧ h0.size ≤ b3 ∧ h0.size ≤ b7 ∧ b3 ≠ b7 ∧ Fld Z h a1 s44 "lows" "[J" (.ref b3) ∧ Fld Z h a1 s44 "highs" "[J" (.ref b7) ∧ Fld Z h a1 s44 "count" "I" vi0 ∧ Arv Z h b3 k3 .long (3 : Int32) [lj0, lj0, lj0] lj0 ∧ Exa Z h b3 "[J" ∧ Arv Z h b7 k7 .long (3 : Int32) [lj0, lj0, lj0] lj0 ∧ Exa Z h b7 "[J") := by
  refine own_start (plainFor_of_name pn_11) (fun m => (ef_18_45 m a1)) ?_
  intro p e s m below meth c s₁ hZ hx hy hml ho hnm hret X0 e0
  have N0 := Fr.nil n0
  obtain ⟨T2, X2, e2, st2⟩ := initO X0 hx hZ ho (wd142 hw) (wd23 hw) (wd24 hw) e0 (g := (mkF m 1 #[rv a1, iv (3 : Int32)] [(.ref a1)])) rfl (by rw [hml]; rfl) rfl (hb hy d18_1) (by decide) (W := 0) (by show 2 * 0 + _ ≤ _; exact Nat.le_of_eq rfl) (by decide)
  obtain ⟨T3, h3, k3, X3, e3, E3, A3, AE3, st3⟩ := newPE (aty := .long) (ad := "[J") X2 hx hZ (wd36 hw) e2 (g := (mkF m 6 #[rv a1, iv (3 : Int32)] [(.int (3 : Int32)), (.ref a1)])) rfl (hb hy d18_6) rfl (by decide) (cap := 3) (by decide) (by decide) (by decide) (by decide) (by decide)
  obtain ⟨b3, g3⟩ : ∃ z, z = h0.size := ⟨_, rfl⟩
  rw [← g3] at A3 AE3 st3
  have V3 : Arv Z h3 b3 k3 .long (3 : Int32) [lj0, lj0, lj0] lj0 := (Arv.new A3 (by decide)).pad (pad_rep [] lj0 3)
  have sz_b3 : h0.size ≤ b3 := (Nat.le_trans (Keep.refl h0 [a1]).1 (Nat.le_of_eq g3.symm))
  have KK3 : Keep h0 h3 [a1] := (Keep.refl h0 [a1]).ext E3
  have fc4 := (pr1.ext E3)
  have fc5 := (pr2.ext E3)
  obtain ⟨T6, h6, X6, e6, W6, st6⟩ := putF X3 hx hZ ho (host := "") (Or.inl (wd143 hw)) Via.refl e3 fc5 fc4 (Or.inr ⟨(wd144 hw), rfl, hnm⟩) (wd137 hw) (ty := (.array .long)) (by decide) rfl rfl (g := (mkF m 8 #[rv a1, iv (3 : Int32)] [(.ref b3), (.ref a1)])) rfl rfl (hb hy d18_8)
  have Fw6 := fc5.same W6
  have KK6 : Keep h0 h6 [a1] := KK3.wr W6 (Or.inl (List.mem_of_getElem? (i := 0) rfl))
  have N6 := Fr.snoc X6 N0 pr3
  obtain ⟨T7, h7, k7, X7, e7, E7, A7, AE7, st7⟩ := newPE (aty := .long) (ad := "[J") X6 hx hZ (wd36 hw) e6 (g := (mkF m 13 #[rv a1, iv (3 : Int32)] [(.int (3 : Int32)), (.ref a1)])) rfl (hb hy d18_13) rfl (by decide) (cap := 3) (by decide) (by decide) (by decide) (by decide) (by decide)
  obtain ⟨b7, g7⟩ : ∃ z, z = h6.size := ⟨_, rfl⟩
  rw [← g7] at A7 AE7 st7
  have V7 : Arv Z h7 b7 k7 .long (3 : Int32) [lj0, lj0, lj0] lj0 := (Arv.new A7 (by decide)).pad (pad_rep [] lj0 3)
  have sz_b7 : h0.size ≤ b7 := (Nat.le_trans KK6.1 (Nat.le_of_eq g7.symm))
  have KK7 : Keep h0 h7 [a1] := KK6.ext E7
  have fc8 := ((fc4.wr W6).ext E7)
  have fc9 := (((pr4.ext E3).other W6 (Or.inr (slot_ne (Or.inr (wd146 hw)) (Or.inr (wd144 hw)) (by decide) (t := (.array .long)) (t' := (.array .long)) (by decide) (by decide)))).ext E7)
  obtain ⟨T10, h10, X10, e10, W10, st10⟩ := putF X7 hx hZ ho (host := "") (Or.inl (wd145 hw)) Via.refl e7 fc9 fc8 (Or.inr ⟨(wd146 hw), rfl, hnm⟩) (wd137 hw) (ty := (.array .long)) (by decide) rfl rfl (g := (mkF m 15 #[rv a1, iv (3 : Int32)] [(.ref b7), (.ref a1)])) rfl rfl (hb hy d18_15)
  have Fw10 := fc9.same W10
  have KK10 : Keep h0 h10 [a1] := KK7.wr W10 (Or.inl (List.mem_of_getElem? (i := 0) rfl))
  have N10 := Fr.snoc X10 N6 pr3
  have fc11 := ((((pr5.ext E3).other W6 (Or.inr (slot_ne (Or.inl (wd153 hw)) (Or.inr (wd144 hw)) (by decide) (t := .int) (t' := (.array .long)) (by decide) (by decide)))).ext E7).other W10 (Or.inr (slot_ne (Or.inl (wd153 hw)) (Or.inr (wd146 hw)) (by decide) (t := .int) (t' := (.array .long)) (by decide) (by decide))))
  have fc12 := ((Fw6.ext E7).other W10 (Or.inr (slot_ne (Or.inr (wd144 hw)) (Or.inr (wd146 hw)) (by decide) (t := (.array .long)) (t' := (.array .long)) (by decide) (by decide))))
  have lz13 := (lq V3.lt (Nat.le_of_eq W6.size.symm))
  have nz14 := (nl lz13 (Nat.le_of_eq g7.symm))
  have nz15 := nl pr5.lt sz_b3
  have fc16 := (((V3.other W6 (Ne.symm nz15)).ext E7).other W10 (Ne.symm nz15))
  have fc17 := (((AE3.wr W6).ext E7).wr W10)
  have nz18 := nl pr5.lt sz_b7
  have fc19 := (V7.other W10 (Ne.symm nz18))
  have fc20 := (AE7.wr W10)
  refine ⟨none, _, _, _, _, _, X10, e10, by decide, fun _ => rfl, fun fs hr => ?_, ?_⟩
  · refine xaloadN X0 hx hy d18_0 rfl rfl ?_
    refine st2 _ ?_
    refine xaloadN X2 hx hy d18_4 rfl rfl ?_
    refine xiloadN X2 hx hy d18_5 rfl ?_
    refine st3 _ ?_
    refine st6 _ ?_
    refine xaloadN X6 hx hy d18_11 rfl rfl ?_
    refine xiloadN X6 hx hy d18_12 rfl ?_
    refine st7 _ ?_
    refine st10 _ ?_
    show SS p e below T10 m 18 #[rv a1, iv (3 : Int32)] [] _
    exact X10.returnOut hx hret (hb hy d18_18) hr
  · exact ⟨b3, b7, k3, k7, rfl, N10, KK10, sz_b3, sz_b7, nz14, fc12, Fw10, fc11, fc16, fc17, fc19, fc20⟩
theorem rm36_2 (l : Launch) (Z : State) (a0 : Array Value) (hw : HW a0 Z) (a1 a2 a4 : Addr) (q7 q8 : Int64) (k9 : ClassId) (a12 : Addr) (q15 : Int64) (k16 : ClassId) (a37 : Addr) (q40 q41 : Int64) (k42 : ClassId) (a46 : Addr) (q49 : Int64) (k50 : ClassId) (w84 : Addr) (h0 : Heap) (n0 : Nat) (OL0 : Old Z n0 h0) (pr1 : Fld Z h0 a1 s43 "lows" "[J" (.ref a4)) (pr2 : Arv Z h0 a4 k9 .long o2 [(.long q7), (.long q8)] lj0) (pr3 : Fld Z h0 a2 s43 "lows" "[J" (.ref a12)) (pr4 : Arv Z h0 a12 k16 .long o1 [(.long q15)] lj0) (pr5 : Fld Z h0 a1 s43 "highs" "[J" (.ref a37)) (pr6 : Arv Z h0 a37 k42 .long o2 [(.long q40), (.long q41)] lj0) (pr7 : Fld Z h0 a2 s43 "highs" "[J" (.ref a46)) (pr8 : Arv Z h0 a46 k50 .long o1 [(.long q49)] lj0) (pr9 : (own_jmin q40 q49) < (own_jmax q7 q15)) (pr10 : q40 < q49) (pr11 : (own_jmin q41 q49) < (own_jmax q8 q15)) (pr12 : ¬ (q41 < q49)) (pr13 : Sta Z Z.heap s32 "EMPTY" s6 (.ref w84)) :
    MF l Z mn36 prog_63_method_4_code 5 (some (.object s32)) ⟨2, 3, 9, 26⟩ #[(.ref a1), (.ref a2)] h0 (fun v h L => v = some (.ref w84) ∧ Fr n0 L ∧ Keep h0 h []) := by
  refine own_start (plainFor_of_name pn_2) (fun m => (ef_36_43 m a1 a2)) ?_
  intro p e s m below meth c s₁ hZ hx hy hml ho hnm hret X0 e0
  have N0 := Fr.nil n0
  obtain ⟨T3, h3, X3, e3, E3, A3, D3, -, st3⟩ := newO X0 hx hZ ho (wd136 hw) (wd137 hw) (wd138 hw) e0 (g := (mkF m 0 #[rv a1, rv a2, uu, uu, uu] [])) rfl (hb hy d36_0) (by decide) (by decide)
  obtain ⟨b3, g3⟩ : ∃ z, z = h0.size := ⟨_, rfl⟩
  rw [← g3] at A3 D3 st3
  have g_b3 : n0 ≤ b3 := (Nat.le_trans (Nat.le_trans (Nat.le_of_eq OL0.1.symm) OL0.2.1) (Nat.le_of_eq g3.symm))
  have sz_b3 : h0.size ≤ b3 := (Nat.le_trans (Keep.refl h0 []).1 (Nat.le_of_eq g3.symm))
  have KK3 : Keep h0 h3 [] := (Keep.refl h0 []).ext E3
  have OL3 := OL0.ext E3
  have F_lows_b3 : Fld Z h3 b3 s44 "lows" "[J" .null := D3 (Or.inr (wd144 hw)) (ty := (.array .long)) (by decide)
  have F_highs_b3 : Fld Z h3 b3 s44 "highs" "[J" .null := D3 (Or.inr (wd146 hw)) (ty := (.array .long)) (by decide)
  have F_count_b3 : Fld Z h3 b3 s44 "count" "I" vi0 := D3 (Or.inl (wd153 hw)) (ty := .int) (by decide)
  have fc5 := (pr1.ext E3)
  obtain ⟨T6, X6, e6, st6⟩ := gF X3 hx hZ ho (wd41 hw) Via.refl e3 fc5 5 #[rv a1, rv a2, uu, uu, uu] [(.ref b3), (.ref b3)] (hb hy d36_5)
  have fc10 := (pr2.ext E3)
  obtain ⟨cl11, Ar11, -, Sz11, Nn11, -, -⟩ := id fc10
  have fc13 := (pr3.ext E3)
  obtain ⟨T14, X14, e14, st14⟩ := gF X6 hx hZ ho (wd41 hw) Via.refl e6 fc13 10 #[rv a1, rv a2, uu, uu, uu] [(.int o2), (.ref b3), (.ref b3)] (hb hy d36_10)
  have fc17 := (pr4.ext E3)
  obtain ⟨cl18, Ar18, -, Sz18, Nn18, -, -⟩ := id fc17
  obtain ⟨_, T19, L19, X19, hQ19, st19⟩ := own_cN X14 hx hZ ho hml (cw27 hw) (rm18_1 l Z a0 hw b3 h3 n0 OL3 A3 F_lows_b3 g_b3 F_highs_b3 F_count_b3) e14 b3 15 #[rv a1, rv a2, uu, uu, uu] [(.int (3 : Int32))] [(.ref b3)] 1 rfl (hb hy d36_15) (by decide)
  obtain ⟨b19_0, b19_1, kx19_0, kx19_1, rfl, Nq19, K19, u19_0, u19_1, u19_2, u19_3, u19_4, u19_5, u19_6, u19_7, u19_8, u19_9⟩ := hQ19
  have KK19 : Keep h0 T19.heap [] := KK3.trans K19 (allS (Or.inr sz_b3) all0)
  have OL19 := OL3.keep K19 (allS g_b3 all0)
  have N19 := Fr.app N0 Nq19
  have nz20 := nl pr1.lt sz_b3
  have fc21 := (fc5.keep K19 (ninS nz20 nin0))
  obtain ⟨T22, X22, e22, st22⟩ := gF X19 hx hZ ho (wd41 hw) Via.refl rfl fc21 26 #[rv a1, rv a2, rv b3, iv o0, iv o0] [vi0] (hb hy d36_26)
  have nz23 := nl pr2.lt sz_b3
  have fc24 := (fc10.keep K19 (ninS nz23 nin0))
  obtain ⟨cl25, Ar25, -, Sz25, Nn25, -, -⟩ := id fc24
  have nz26 := nl pr3.lt sz_b3
  have fc27 := (fc13.keep K19 (ninS nz26 nin0))
  obtain ⟨T28, X28, e28, st28⟩ := gF X22 hx hZ ho (wd41 hw) Via.refl e22 fc27 36 #[rv a1, rv a2, rv b3, iv o0, iv o0] [vi0] (hb hy d36_36)
  have nz29 := nl pr4.lt sz_b3
  have fc30 := (fc17.keep K19 (ninS nz29 nin0))
  obtain ⟨cl31, Ar31, -, Sz31, Nn31, -, -⟩ := id fc30
  obtain ⟨T32, X32, e32, st32⟩ := gF X28 hx hZ ho (wd41 hw) Via.refl e28 fc21 45 #[rv a1, rv a2, rv b3, iv o0, iv o0] [(.ref b3)] (hb hy d36_45)
  obtain ⟨T34, X34, e34, st34⟩ := gF X32 hx hZ ho (wd41 hw) Via.refl e32 fc27 51 #[rv a1, rv a2, rv b3, iv o0, iv o0] [(.long q7), (.ref b3)] (hb hy d36_51)
  obtain ⟨_, T36, L36, X36, hQ36, st36⟩ := own_cS X34 hx hZ ho hml (cw41 hw) (mg_own_jmax l Z a0 hw q7 q15 T19.heap n0 OL19 ) e34 57 #[rv a1, rv a2, rv b3, iv o0, iv o0] [(.long q7), (.long q15)] [(.ref b3)] 1 rfl (hb hy d36_57) (by decide)
  obtain ⟨rfl, Nq36, ec36⟩ := hQ36
  have N36 := Fr.app N19 Nq36
  have fc38 := ((pr5.ext E3).keep K19 (ninS nz20 nin0))
  obtain ⟨T39, X39, e39, st39⟩ := gF X36 hx hZ ho (wd43 hw) Via.refl ec36 fc38 61 #[rv a1, rv a2, rv b3, iv o0, iv o0] [(.long (own_jmax q7 q15)), (.ref b3)] (hb hy d36_61)
  have nz43 := nl pr6.lt sz_b3
  have fc44 := ((pr6.ext E3).keep K19 (ninS nz43 nin0))
  have fc47 := ((pr7.ext E3).keep K19 (ninS nz26 nin0))
  obtain ⟨T48, X48, e48, st48⟩ := gF X39 hx hZ ho (wd43 hw) Via.refl e39 fc47 67 #[rv a1, rv a2, rv b3, iv o0, iv o0] [(.long q40), (.long (own_jmax q7 q15)), (.ref b3)] (hb hy d36_67)
  have nz51 := nl pr8.lt sz_b3
  have fc52 := ((pr8.ext E3).keep K19 (ninS nz51 nin0))
  obtain ⟨_, T54, L54, X54, hQ54, st54⟩ := own_cS X48 hx hZ ho hml (cw42 hw) (mg_own_jmin l Z a0 hw q40 q49 T19.heap n0 OL19 ) e48 73 #[rv a1, rv a2, rv b3, iv o0, iv o0] [(.long q40), (.long q49)] [(.long (own_jmax q7 q15)), (.ref b3)] 3 rfl (hb hy d36_73) (by decide)
  obtain ⟨rfl, Nq54, ec54⟩ := hQ54
  have N54 := Fr.app N36 Nq54
  have fc56 := (A3.keep K19)
  obtain ⟨_, T55, L55, X55, hQ55, st55⟩ := own_cV X54 hx hZ ho hml (cw28 hw) (rm19_1 l Z a0 hw b3 (own_jmax q7 q15) (own_jmin q40 q49) T19.heap n0 OL19 pr9) ec54 fc56 76 #[rv a1, rv a2, rv b3, iv o0, iv o0] [(.long (own_jmax q7 q15)), (.long (own_jmin q40 q49))] [] 0 rfl (hb hy d36_76) (by decide)
  obtain ⟨rfl, Nq55, ec55⟩ := hQ55
  have N55 := Fr.app N54 Nq55
  obtain ⟨T57, X57, e57, st57⟩ := gF X55 hx hZ ho (wd43 hw) Via.refl ec55 fc38 80 #[rv a1, rv a2, rv b3, iv o0, iv o0] [] (hb hy d36_80)
  obtain ⟨T59, X59, e59, st59⟩ := gF X57 hx hZ ho (wd43 hw) Via.refl e57 fc47 86 #[rv a1, rv a2, rv b3, iv o0, iv o0] [(.long q40)] (hb hy d36_86)
  obtain ⟨T61, X61, e61, st61⟩ := gF X59 hx hZ ho (wd41 hw) Via.refl e59 fc21 26 #[rv a1, rv a2, rv b3, iv o1, iv o0] [vi1] (hb hy d36_26)
  obtain ⟨cl62, Ar62, -, Sz62, Nn62, -, -⟩ := id fc24
  obtain ⟨T63, X63, e63, st63⟩ := gF X61 hx hZ ho (wd41 hw) Via.refl e61 fc27 36 #[rv a1, rv a2, rv b3, iv o1, iv o0] [vi0] (hb hy d36_36)
  obtain ⟨cl64, Ar64, -, Sz64, Nn64, -, -⟩ := id fc30
  obtain ⟨T65, X65, e65, st65⟩ := gF X63 hx hZ ho (wd41 hw) Via.refl e63 fc21 45 #[rv a1, rv a2, rv b3, iv o1, iv o0] [(.ref b3)] (hb hy d36_45)
  obtain ⟨T67, X67, e67, st67⟩ := gF X65 hx hZ ho (wd41 hw) Via.refl e65 fc27 51 #[rv a1, rv a2, rv b3, iv o1, iv o0] [(.long q8), (.ref b3)] (hb hy d36_51)
  obtain ⟨_, T69, L69, X69, hQ69, st69⟩ := own_cS X67 hx hZ ho hml (cw41 hw) (mg_own_jmax l Z a0 hw q8 q15 T19.heap n0 OL19 ) e67 57 #[rv a1, rv a2, rv b3, iv o1, iv o0] [(.long q8), (.long q15)] [(.ref b3)] 1 rfl (hb hy d36_57) (by decide)
  obtain ⟨rfl, Nq69, ec69⟩ := hQ69
  have N69 := Fr.app N55 Nq69
  obtain ⟨T70, X70, e70, st70⟩ := gF X69 hx hZ ho (wd43 hw) Via.refl ec69 fc38 61 #[rv a1, rv a2, rv b3, iv o1, iv o0] [(.long (own_jmax q8 q15)), (.ref b3)] (hb hy d36_61)
  obtain ⟨T72, X72, e72, st72⟩ := gF X70 hx hZ ho (wd43 hw) Via.refl e70 fc47 67 #[rv a1, rv a2, rv b3, iv o1, iv o0] [(.long q41), (.long (own_jmax q8 q15)), (.ref b3)] (hb hy d36_67)
  obtain ⟨_, T74, L74, X74, hQ74, st74⟩ := own_cS X72 hx hZ ho hml (cw42 hw) (mg_own_jmin l Z a0 hw q41 q49 T19.heap n0 OL19 ) e72 73 #[rv a1, rv a2, rv b3, iv o1, iv o0] [(.long q41), (.long q49)] [(.long (own_jmax q8 q15)), (.ref b3)] 3 rfl (hb hy d36_73) (by decide)
  obtain ⟨rfl, Nq74, ec74⟩ := hQ74
  have N74 := Fr.app N69 Nq74
  obtain ⟨_, T75, L75, X75, hQ75, st75⟩ := own_cV X74 hx hZ ho hml (cw28 hw) (rm19_1 l Z a0 hw b3 (own_jmax q8 q15) (own_jmin q41 q49) T19.heap n0 OL19 pr11) ec74 fc56 76 #[rv a1, rv a2, rv b3, iv o1, iv o0] [(.long (own_jmax q8 q15)), (.long (own_jmin q41 q49))] [] 0 rfl (hb hy d36_76) (by decide)
  obtain ⟨rfl, Nq75, ec75⟩ := hQ75
  have N75 := Fr.app N74 Nq75
  obtain ⟨T76, X76, e76, st76⟩ := gF X75 hx hZ ho (wd43 hw) Via.refl ec75 fc38 80 #[rv a1, rv a2, rv b3, iv o1, iv o0] [] (hb hy d36_80)
  obtain ⟨T78, X78, e78, st78⟩ := gF X76 hx hZ ho (wd43 hw) Via.refl e76 fc47 86 #[rv a1, rv a2, rv b3, iv o1, iv o0] [(.long q41)] (hb hy d36_86)
  obtain ⟨T80, X80, e80, st80⟩ := gF X78 hx hZ ho (wd41 hw) Via.refl e78 fc21 26 #[rv a1, rv a2, rv b3, iv o1, iv o1] [vi1] (hb hy d36_26)
  obtain ⟨cl81, Ar81, -, Sz81, Nn81, -, -⟩ := id fc24
  obtain ⟨T82, X82, e82, st82⟩ := gF X80 hx hZ ho (wd41 hw) Via.refl e80 fc27 36 #[rv a1, rv a2, rv b3, iv o1, iv o1] [vi1] (hb hy d36_36)
  obtain ⟨cl83, Ar83, -, Sz83, Nn83, -, -⟩ := id fc30
  obtain ⟨_, T85, L85, X85, hQ85, st85⟩ := own_cV X82 hx hZ ho hml (cw35 hw) (rm20_1 l Z a0 hw b3 w84 T19.heap n0 OL19 u19_5 pr13) e82 fc56 109 #[rv a1, rv a2, rv b3, iv o1, iv o1] [] [] 0 rfl (hb hy d36_109) (by decide)
  obtain ⟨rfl, Nq85, ec85⟩ := hQ85
  have N85 := Fr.app N75 Nq85
  refine ⟨some (.ref w84), _, _, _, _, _, X85, ec85, by decide, nofun, fun fs hr => ?_, ?_⟩
  · refine st3 _ ?_
    refine XS.dup X3.here hx rfl (hb hy d36_3) rfl rfl ?_
    refine xaloadN X3 hx hy d36_4 rfl rfl ?_
    refine st6 _ ?_
    refine X6.arraylength hx (by rw [e6]; exact Ar11.1) (State.isArrayOf_alike hZ.alike Ar11.2.1) (g := (mkF m 8 #[rv a1, rv a2, uu, uu, uu] [(.ref a4), (.ref b3), (.ref b3)])) rfl rfl (hb hy d36_8) _ ?_
    rw [len_of Sz11 Nn11]
    refine xaloadN X6 hx hy d36_9 rfl rfl ?_
    refine st14 _ ?_
    refine X14.arraylength hx (by rw [e14]; exact Ar18.1) (State.isArrayOf_alike hZ.alike Ar18.2.1) (g := (mkF m 13 #[rv a1, rv a2, uu, uu, uu] [(.ref a12), (.int o2), (.ref b3), (.ref b3)])) rfl rfl (hb hy d36_13) _ ?_
    rw [len_of Sz18 Nn18]
    refine XS.iadd X14.here hx rfl (hb hy d36_14) rfl ?_
    refine st19 _ ?_
    refine XS.astoreN X19.here hx rfl (hb hy d36_18) rfl rfl (l' := #[rv a1, rv a2, rv b3, uu, uu]) rfl ?_
    refine XS.iconst X19.here hx rfl (hb hy d36_19) ?_
    refine XS.istoreN X19.here hx rfl (hb hy d36_20) rfl (l' := #[rv a1, rv a2, rv b3, iv o0, uu]) rfl ?_
    refine XS.iconst X19.here hx rfl (hb hy d36_21) ?_
    refine XS.istore X19.here hx rfl (hb hy d36_22) rfl (l' := #[rv a1, rv a2, rv b3, iv o0, iv o0]) rfl ?_
    refine xiloadN X19 hx hy d36_24 rfl ?_
    refine xaloadN X19 hx hy d36_25 rfl rfl ?_
    refine st22 _ ?_
    refine X22.arraylength hx (by rw [e22]; exact Ar25.1) (State.isArrayOf_alike hZ.alike Ar25.2.1) (g := (mkF m 29 #[rv a1, rv a2, rv b3, iv o0, iv o0] [(.ref a4), vi0])) rfl rfl (hb hy d36_29) _ ?_
    rw [len_of Sz25 Nn25]
    refine XS.icmpNo X22.here hx rfl (hb hy d36_30) rfl (tlt (by decide : o0 < o2)).2.1 ?_
    refine xiload X22 hx hy d36_33 rfl ?_
    refine xaloadN X22 hx hy d36_35 rfl rfl ?_
    refine st28 _ ?_
    refine X28.arraylength hx (by rw [e28]; exact Ar31.1) (State.isArrayOf_alike hZ.alike Ar31.2.1) (g := (mkF m 39 #[rv a1, rv a2, rv b3, iv o0, iv o0] [(.ref a12), vi0])) rfl rfl (hb hy d36_39) _ ?_
    rw [len_of Sz31 Nn31]
    refine XS.icmpNo X28.here hx rfl (hb hy d36_40) rfl (tlt (by decide : o0 < o1)).2.1 ?_
    refine xaloadN X28 hx hy d36_43 rfl rfl ?_
    refine xaloadN X28 hx hy d36_44 rfl rfl ?_
    refine st32 _ ?_
    refine xiloadN X32 hx hy d36_48 rfl ?_
    refine own_laJ X32 hx hZ e32 fc24 (v := (.long q7)) (by decide) rfl (hb hy d36_49) ?_
    refine xaloadN X32 hx hy d36_50 rfl rfl ?_
    refine st34 _ ?_
    refine xiload X34 hx hy d36_54 rfl ?_
    refine own_laJ X34 hx hZ e34 fc30 (v := (.long q15)) (by decide) rfl (hb hy d36_56) ?_
    refine st36 _ ?_
    refine xaloadN X36 hx hy d36_60 rfl rfl ?_
    refine st39 _ ?_
    refine xiloadN X39 hx hy d36_64 rfl ?_
    refine own_laJ X39 hx hZ e39 fc44 (v := (.long q40)) (by decide) rfl (hb hy d36_65) ?_
    refine xaloadN X39 hx hy d36_66 rfl rfl ?_
    refine st48 _ ?_
    refine xiload X48 hx hy d36_70 rfl ?_
    refine own_laJ X48 hx hZ e48 fc52 (v := (.long q49)) (by decide) rfl (hb hy d36_72) ?_
    refine st54 _ ?_
    refine st55 _ ?_
    refine xaloadN X55 hx hy d36_79 rfl rfl ?_
    refine st57 _ ?_
    refine xiloadN X57 hx hy d36_83 rfl ?_
    refine own_laJ X57 hx hZ e57 fc44 (v := (.long q40)) (by decide) rfl (hb hy d36_84) ?_
    refine xaloadN X57 hx hy d36_85 rfl rfl ?_
    refine st59 _ ?_
    show SS p e below T59 m 89 #[rv a1, rv a2, rv b3, iv o0, iv o0] [(.ref a46), (.long q40)] _
    refine xiload X59 hx hy d36_89 rfl ?_
    refine own_laJ X59 hx hZ e59 fc52 (v := (.long q49)) (by decide) rfl (hb hy d36_91) ?_
    refine XS.lcmp X59.here hx rfl (hb hy d36_92) rfl ?_
    refine XS.ifNo X59.here hx rfl (hb hy d36_93) rfl ((if0 _ _).trans (tlt (((lw_lt q40 q49).mpr pr10) : (lcmpW q40 q49) < o0)).2.1) ?_
    refine XS.iinc X59.here hx rfl (hb hy d36_96) rfl (l' := #[rv a1, rv a2, rv b3, .val (.int (o0 + o1)), iv o0]) rfl ?_
    refine XS.goto X59.here hx rfl (pc0 := 99) (pc' := 24) rfl (hb hy d36_99) (by decide) (by decide) ?_
    refine xiloadN X59 hx hy d36_24 rfl ?_
    refine xaloadN X59 hx hy d36_25 rfl rfl ?_
    refine st61 _ ?_
    refine X61.arraylength hx (by rw [e61]; exact Ar62.1) (State.isArrayOf_alike hZ.alike Ar62.2.1) (g := (mkF m 29 #[rv a1, rv a2, rv b3, iv o1, iv o0] [(.ref a4), vi1])) rfl rfl (hb hy d36_29) _ ?_
    rw [len_of Sz62 Nn62]
    refine XS.icmpNo X61.here hx rfl (hb hy d36_30) rfl (tlt (by decide : o1 < o2)).2.1 ?_
    refine xiload X61 hx hy d36_33 rfl ?_
    refine xaloadN X61 hx hy d36_35 rfl rfl ?_
    refine st63 _ ?_
    refine X63.arraylength hx (by rw [e63]; exact Ar64.1) (State.isArrayOf_alike hZ.alike Ar64.2.1) (g := (mkF m 39 #[rv a1, rv a2, rv b3, iv o1, iv o0] [(.ref a12), vi0])) rfl rfl (hb hy d36_39) _ ?_
    rw [len_of Sz64 Nn64]
    refine XS.icmpNo X63.here hx rfl (hb hy d36_40) rfl (tlt (by decide : o0 < o1)).2.1 ?_
    refine xaloadN X63 hx hy d36_43 rfl rfl ?_
    refine xaloadN X63 hx hy d36_44 rfl rfl ?_
    refine st65 _ ?_
    refine xiloadN X65 hx hy d36_48 rfl ?_
    refine own_laJ X65 hx hZ e65 fc24 (v := (.long q8)) (by decide) rfl (hb hy d36_49) ?_
    refine xaloadN X65 hx hy d36_50 rfl rfl ?_
    refine st67 _ ?_
    refine xiload X67 hx hy d36_54 rfl ?_
    refine own_laJ X67 hx hZ e67 fc30 (v := (.long q15)) (by decide) rfl (hb hy d36_56) ?_
    refine st69 _ ?_
    refine xaloadN X69 hx hy d36_60 rfl rfl ?_
    refine st70 _ ?_
    refine xiloadN X70 hx hy d36_64 rfl ?_
    refine own_laJ X70 hx hZ e70 fc44 (v := (.long q41)) (by decide) rfl (hb hy d36_65) ?_
    refine xaloadN X70 hx hy d36_66 rfl rfl ?_
    refine st72 _ ?_
    refine xiload X72 hx hy d36_70 rfl ?_
    refine own_laJ X72 hx hZ e72 fc52 (v := (.long q49)) (by decide) rfl (hb hy d36_72) ?_
    refine st74 _ ?_
    refine st75 _ ?_
    refine xaloadN X75 hx hy d36_79 rfl rfl ?_
    refine st76 _ ?_
    refine xiloadN X76 hx hy d36_83 rfl ?_
    refine own_laJ X76 hx hZ e76 fc44 (v := (.long q41)) (by decide) rfl (hb hy d36_84) ?_
    refine xaloadN X76 hx hy d36_85 rfl rfl ?_
    refine st78 _ ?_
    refine xiload X78 hx hy d36_89 rfl ?_
    refine own_laJ X78 hx hZ e78 fc52 (v := (.long q49)) (by decide) rfl (hb hy d36_91) ?_
    refine XS.lcmp X78.here hx rfl (hb hy d36_92) rfl ?_
    refine XS.ifYes X78.here hx rfl (pc0 := 93) (pc' := 102) rfl (hb hy d36_93) rfl ((if0 _ _).trans (flt ((fun z => pr12 ((lw_lt q41 q49).mp z)) : ¬ ((lcmpW q41 q49) < o0))).2.1) (by decide) (by decide) ?_
    refine XS.iinc X78.here hx rfl (hb hy d36_102) rfl (l' := #[rv a1, rv a2, rv b3, iv o1, .val (.int (o0 + o1))]) rfl ?_
    refine XS.goto X78.here hx rfl (pc0 := 105) (pc' := 24) rfl (hb hy d36_105) (by decide) (by decide) ?_
    refine xiloadN X78 hx hy d36_24 rfl ?_
    refine xaloadN X78 hx hy d36_25 rfl rfl ?_
    refine st80 _ ?_
    refine X80.arraylength hx (by rw [e80]; exact Ar81.1) (State.isArrayOf_alike hZ.alike Ar81.2.1) (g := (mkF m 29 #[rv a1, rv a2, rv b3, iv o1, iv o1] [(.ref a4), vi1])) rfl rfl (hb hy d36_29) _ ?_
    rw [len_of Sz81 Nn81]
    refine XS.icmpNo X80.here hx rfl (hb hy d36_30) rfl (tlt (by decide : o1 < o2)).2.1 ?_
    refine xiload X80 hx hy d36_33 rfl ?_
    refine xaloadN X80 hx hy d36_35 rfl rfl ?_
    refine st82 _ ?_
    refine X82.arraylength hx (by rw [e82]; exact Ar83.1) (State.isArrayOf_alike hZ.alike Ar83.2.1) (g := (mkF m 39 #[rv a1, rv a2, rv b3, iv o1, iv o1] [(.ref a12), vi1])) rfl rfl (hb hy d36_39) _ ?_
    rw [len_of Sz83 Nn83]
    refine XS.icmpYes X82.here hx rfl (pc0 := 40) (pc' := 108) rfl (hb hy d36_40) rfl (flt (by decide : ¬ (o1 < o1))).2.1 (by decide) (by decide) ?_
    refine xaloadN X82 hx hy d36_108 rfl rfl ?_
    refine st85 _ ?_
    show SS p e below T85 m 112 #[rv a1, rv a2, rv b3, iv o1, iv o1] [(.ref w84)] _
    exact own_retR X85 hx hret rfl rfl rfl (hb hy d36_112) hr
  · exact ⟨rfl, N85, KK19⟩
theorem rm29_3 (l : Launch) (Z : State) (a0 : Array Value) (hw : HW a0 Z) (a1 : Addr) (p2 : Int32) (a3 a4 a6 : Addr) (k7 : ClassId) (a11 : Addr) (q12 q13 : Int64) (k14 : ClassId) (a15 : Addr) (q16 : Int64) (k17 : ClassId) (a18 : Addr) (q19 q20 : Int64) (k21 : ClassId) (a22 : Addr) (q23 : Int64) (k24 : ClassId) (w25 : Addr) (p27 : Int32) (a35 a38 : Addr) (p41 : Int32) (h0 : Heap) (n0 : Nat) (OL0 : Old Z n0 h0) (pr1 : Fld Z h0 a1 s45 "sets" s8 (.ref a4)) (pr2 : Asl Z h0 a4 k7 tV o12 p2 (.ref a6)) (pr3 : Fld Z h0 a6 s43 "lows" "[J" (.ref a11)) (pr4 : Arv Z h0 a11 k14 .long o2 [(.long q12), (.long q13)] lj0) (pr5 : Fld Z h0 a3 s43 "lows" "[J" (.ref a15)) (pr6 : Arv Z h0 a15 k17 .long o1 [(.long q16)] lj0) (pr7 : Fld Z h0 a6 s43 "highs" "[J" (.ref a18)) (pr8 : Arv Z h0 a18 k21 .long o2 [(.long q19), (.long q20)] lj0) (pr9 : Fld Z h0 a3 s43 "highs" "[J" (.ref a22)) (pr10 : Arv Z h0 a22 k24 .long o1 [(.long q23)] lj0) (pr11 : (own_jmin q19 q23) < (own_jmax q12 q16)) (pr12 : q19 < q23) (pr13 : (own_jmin q20 q23) < (own_jmax q13 q16)) (pr14 : ¬ (q20 < q23)) (pr15 : Sta Z Z.heap s32 "EMPTY" s6 (.ref w25)) (pr16 : Exa Z h0 a6 s43) (pr17 : Fld Z h0 a1 s45 s15 "Z" (.int p27)) (pr18 : Fld Z Z.heap w25 s32 "value" s3 .null) (pr19 : Exa Z Z.heap w25 s32) (pr20 : Exa Z h0 a1 s45) (pr21 : n0 ≤ a1) (pr22 : Fld Z h0 a1 s45 s11 s5 (.ref a35)) (pr23 : Fld Z h0 a1 s45 s16 s5 (.ref a38)) (pr24 : Fld Z h0 a1 s45 s48 "Z" (.int p41)) :
    MF l Z mn29 prog_66_method_2_code 4 none ⟨3, 4, 11, 3075⟩ #[(.ref a1), (.int p2), (.ref a3)] h0 (fun v h L => v = none ∧ Fr n0 L ∧ Keep h0 h [a1] ∧ Fld Z h a1 s45 "sets" s8 (.ref a4) ∧ Fld Z h a1 s45 s15 "Z" (.int (nar .boolean (p27 ||| o1))) ∧ Fld Z h a1 s45 s11 s5 (.ref a35) ∧ Fld Z h a1 s45 s16 s5 (.ref a38) ∧ Fld Z h a1 s45 s48 "Z" (.int p41)) := by
  refine own_startN (plainFor_of_name pn_7) (fun m => (ef_29_12 m a1 p2 a3)) ?_
  intro p e s m below meth c s₁ hZ hx hy hml ho hnm hnamed hret X0 e0
  have N0 := Fr.nil n0
  obtain ⟨T5, X5, e5, st5⟩ := gF X0 hx hZ ho (wd68 hw) Via.refl e0 pr1 1 #[rv a1, iv p2, rv a3, uu] [] (hb hy d29_1)
  obtain ⟨T9, X9, e9, st9⟩ := gF X5 hx hZ ho (wd68 hw) Via.refl e5 pr1 18 #[rv a1, iv p2, rv a3, uu] [] (hb hy d29_18)
  obtain ⟨_, T26, L26, X26, hQ26, st26⟩ := own_cV X9 hx hZ ho hml (cw44 hw) (rm36_2 l Z a0 hw a6 a3 a11 q12 q13 k14 a15 q16 k17 a18 q19 q20 k21 a22 q23 k24 w25 h0 n0 OL0 pr3 pr4 pr5 pr6 pr7 pr8 pr9 pr10 pr11 pr12 pr13 pr14 pr15) e9 pr16 24 #[rv a1, iv p2, rv a3, uu] [(.ref a3)] [] 0 rfl (hb hy d29_24) (by decide)
  obtain ⟨rfl, Nq26, K26⟩ := hQ26
  have KK26 : Keep h0 T26.heap [a1] := (Keep.refl h0 [a1]).trans K26 all0
  have OL26 := OL0.keep K26 all0
  have N26 := Fr.app N0 Nq26
  have fc28 := (pr17.keep K26 nin0)
  obtain ⟨T29, X29, e29, st29⟩ := gF X26 hx hZ ho (wd190 hw) Via.refl rfl fc28 30 #[rv a1, iv p2, rv a3, rv w25] [(.ref a1)] (hb hy d29_30)
  obtain ⟨_, T30, L30, X30, hQ30, st30⟩ := own_cV X29 hx hZ ho hml (cw37 hw) (rm26_1 l Z a0 hw w25 T26.heap n0 OL26 pr18) e29 (pr19.ext OL26.2) 34 #[rv a1, iv p2, rv a3, rv w25] [] [(.int p27), (.ref a1)] 2 rfl (hb hy d29_34) (by decide)
  obtain ⟨rfl, Nq30, ec30⟩ := hQ30
  have N30 := Fr.app N26 Nq30
  have fc31 := (pr20.keep K26)
  obtain ⟨T32, h32, X32, e32, W32, st32⟩ := putFN X30 hx hZ ho (wd190 hw) Via.refl ec30 fc28 fc31 (Or.inl (wd191 hw)) (wd46 hw) (ty := .boolean) (v' := (.int (nar .boolean (p27 ||| o1)))) (by decide) rfl (fits_nar_bool _) (g := (mkF m 38 #[rv a1, iv p2, rv a3, rv w25] [(.int (p27 ||| o1)), (.ref a1)])) rfl rfl (hb hy d29_38)
  have Fw32 := fc28.same W32
  have KK32 : Keep h0 h32 [a1] := KK26.wr W32 (Or.inl (List.mem_of_getElem? (i := 0) rfl))
  have OL32 := OL26.wr W32 pr21
  have N32 := Fr.snoc X32 N30 pr21
  obtain ⟨T33, h33, X33, e33, E33, LM33, st33⟩ := own_mk X32 hx hZ hml hnamed (wd282 hw) (wd200 hw) own_lok0 rfl rfl e32 a1 p2 #[rv a1, iv p2, rv a3, rv w25] [(.ref w25)] rfl (hb hy d29_44) (by decide) (by decide) (W := 1) rfl (by decide)
  obtain ⟨b33, g33⟩ : ∃ z, z = h32.size := ⟨_, rfl⟩
  rw [← g33] at LM33 st33
  have KK33 : Keep h0 h33 [a1] := KK32.ext E33
  have OL33 := OL32.ext E33
  obtain ⟨_, T34, L34, X34, hQ34, st34⟩ := own_cV X33 hx hZ ho hml (cw39 hw) (rm27_1 l Z a0 hw w25 b33 h33 n0 OL33 pr18) e33 (pr19.ext OL33.2) 49 #[rv a1, iv p2, rv a3, rv w25] [(.ref b33)] [] 0 rfl (hb hy d29_49) (by decide)
  obtain ⟨rfl, Nq34, ec34⟩ := hQ34
  have N34 := Fr.app N32 Nq34
  have fc36 := (((pr22.keep K26 nin0).other W32 (Or.inr (slot_ne (Or.inr (wd97 hw)) (Or.inl (wd191 hw)) (by decide) (t := (.object s30)) (t' := .boolean) (by decide) (by decide)))).ext E33)
  have fc37 := (Fw32.ext E33)
  have fc39 := (((pr23.keep K26 nin0).other W32 (Or.inr (slot_ne (Or.inr (wd95 hw)) (Or.inl (wd191 hw)) (by decide) (t := (.object s30)) (t' := .boolean) (by decide) (by decide)))).ext E33)
  have fc40 := (((pr1.keep K26 nin0).other W32 (Or.inr (slot_ne (Or.inr (wd69 hw)) (Or.inl (wd191 hw)) (by decide) (t := (.array tV)) (t' := .boolean) (by decide) (by decide)))).ext E33)
  have fc42 := (((pr24.keep K26 nin0).other W32 (Or.inr (slot_ne (Or.inl (wd104 hw)) (Or.inl (wd191 hw)) (by decide) (t := .boolean) (t' := .boolean) (by decide) (by decide)))).ext E33)
  refine ⟨none, _, _, _, _, _, X34, ec34, by decide, fun _ => rfl, fun fs hr => ?_, ?_⟩
  · refine xaloadN X0 hx hy d29_0 rfl rfl ?_
    refine st5 _ ?_
    refine xiloadN X5 hx hy d29_4 rfl ?_
    refine own_lA X5 hx hZ e5 pr2 rfl (hb hy d29_5) ?_
    refine XS.ifnonnullYes X5.here hx rfl (pc0 := 6) (pc' := 17) rfl (hb hy d29_6) rfl (by decide) (by decide) ?_
    refine xaloadN X5 hx hy d29_17 rfl rfl ?_
    refine st9 _ ?_
    refine xiloadN X9 hx hy d29_21 rfl ?_
    refine own_lA X9 hx hZ e9 pr2 rfl (hb hy d29_22) ?_
    refine xaloadN X9 hx hy d29_23 rfl rfl ?_
    refine st26 _ ?_
    refine XS.astoreN X26.here hx rfl (hb hy d29_27) rfl rfl (l' := #[rv a1, iv p2, rv a3, rv w25]) rfl ?_
    refine xaloadN X26 hx hy d29_28 rfl rfl ?_
    refine XS.dup X26.here hx rfl (hb hy d29_29) rfl rfl ?_
    refine st29 _ ?_
    refine xaloadN X29 hx hy d29_33 rfl rfl ?_
    refine st30 _ ?_
    refine XS.ior X30.here hx rfl (hb hy d29_37) rfl ?_
    refine st32 _ ?_
    refine xaloadN X32 hx hy d29_41 rfl rfl ?_
    refine xaloadN X32 hx hy d29_42 rfl rfl ?_
    refine xiloadN X32 hx hy d29_43 rfl ?_
    refine st33 _ ?_
    refine st34 _ ?_
    show SS p e below T34 m 52 #[rv a1, iv p2, rv a3, rv w25] [] _
    exact X34.returnOut hx hret (hb hy d29_52) hr
  · exact ⟨rfl, N34, KK33, fc40, fc37, fc36, fc39, fc42⟩
theorem sg199_6 (l : Launch) (Z : State) (a0 : Array Value) (hw : HW a0 Z) (p1 p2 : Int32) (q3 q4 : Int64) (p5 : Int32) (q6 q7 : Int64) (p8 p9 p10 : Int32) (a11 a12 a13 a16 a17 : Addr) (k18 : ClassId) (a19 : Addr) (q20 q21 : Int64) (k22 : ClassId) (a23 : Addr) (k24 : ClassId) (a25 : Addr) (q26 q27 : Int64) (k28 : ClassId) (a29 : Addr) (k30 : ClassId) (w31 : Addr) (p32 : Int32) (a33 a34 : Addr) (h0 : Heap) (n0 : Nat) (OL0 : Old Z n0 h0) (pr1 : Fld Z h0 a13 s45 s48 "Z" vi0) (pr2 : Exa Z h0 a13 s45) (pr3 : Fld Z h0 a13 s45 "sets" s8 (.ref a16)) (pr4 : Asl Z h0 a16 k18 tV o12 p5 (.ref a17)) (pr5 : Fld Z h0 a17 s43 "lows" "[J" (.ref a19)) (pr6 : Arv Z h0 a19 k22 .long o2 [(.long q20), (.long q21)] lj0) (pr7 : Fld Z h0 a12 s43 "lows" "[J" (.ref a23)) (pr8 : Arv Z h0 a23 k24 .long o1 [(.long q6)] lj0) (pr9 : Fld Z h0 a17 s43 "highs" "[J" (.ref a25)) (pr10 : Arv Z h0 a25 k28 .long o2 [(.long q26), (.long q27)] lj0) (pr11 : Fld Z h0 a12 s43 "highs" "[J" (.ref a29)) (pr12 : Arv Z h0 a29 k30 .long o1 [(.long q7)] lj0) (pr13 : (own_jmin q26 q7) < (own_jmax q20 q6)) (pr14 : q26 < q7) (pr15 : (own_jmin q27 q7) < (own_jmax q21 q6)) (pr16 : ¬ ((281474976710656 : Int64) < q7)) (pr17 : ¬ (q27 < q7)) (pr18 : Sta Z Z.heap s32 "EMPTY" s6 (.ref w31)) (pr19 : Exa Z h0 a17 s43) (pr20 : Fld Z h0 a13 s45 s15 "Z" (.int p32)) (pr21 : Fld Z Z.heap w31 s32 "value" s3 .null) (pr22 : Exa Z Z.heap w31 s32) (pr23 : n0 ≤ a13) (pr24 : Fld Z h0 a13 s45 s11 s5 (.ref a33)) (pr25 : Fld Z h0 a13 s45 s16 s5 (.ref a34))
    (st0 : ST Z p l e s m args below meth c T0 locs cells slots h0 n0) (hcl : cells + 4 ≤ 80) (hsl : slots + 11 ≤ 320) : SG p l e s m args below meth c T0 n0 199 (LV p1 p2 q3 q4 p5 q6 q7 p8 p9 p10 a11 a12 a13 (iv o1) (iv o0) uu) := by
  obtain ⟨hZ, hx, hy, hml, ho, hnm, hret, X0, e0, N0⟩ := st0
  have pre0 : ∀ t, SS p e below T0 m 199 (LV p1 p2 q3 q4 p5 q6 q7 p8 p9 p10 a11 a12 a13 (iv o1) (iv o0) uu) [] t → SS p e below T0 m 199 (LV p1 p2 q3 q4 p5 q6 q7 p8 p9 p10 a11 a12 a13 (iv o1) (iv o0) uu) [] t := fun _ k => k
  have pre14 : ∀ t, SS p e below T0 m 204 (LV p1 p2 q3 q4 p5 q6 q7 p8 p9 p10 a11 a12 a13 (iv o1) (iv o0) uu) [(.int (p1 &&& (128 : Int32)))] t → SS p e below T0 m 199 (LV p1 p2 q3 q4 p5 q6 q7 p8 p9 p10 a11 a12 a13 (iv o1) (iv o0) uu) [] t := by
    intro t kt
    refine pre0 _ ?_
    refine xiloadN X0 hx hy at_199 rfl ?_
    refine XS.sipush X0.here hx rfl (hb hy at_200) ?_
    refine XS.iand X0.here hx rfl (hb hy at_203) rfl ?_
    exact kt
  by_cases hf14 : (p1 &&& (128 : Int32)) = o0
  · obtain ⟨_, _, _, _, XX15, hk15, hN15, sg15⟩ := sg216_0 l Z a0 hw p1 p2 q3 q4 p5 q6 q7 p8 p9 p10 a11 a12 a13 h0 n0 OL0 pr1 pr2 ⟨hZ, hx, hy, hml, ho, hnm, hret, X0, e0, N0⟩ (by show cells + 0 ≤ 80; omega) (by show slots + 0 ≤ 320; omega)
    refine ⟨_, _, _, _, XX15, hk15, hN15, fun fs hr => pre14 _ ?_⟩
    refine XS.ifYes X0.here hx rfl (pc0 := 204) (pc' := 216) rfl (hb hy at_204) rfl ((if0 _ _).trans (teq hf14).1) (by decide) (by decide) ?_
    exact sg15 fs hr
  · obtain ⟨_, T35, L35, X35, hQ35, st35⟩ := own_cV X0 hx hZ ho hml (cw12 hw) (rm29_3 l Z a0 hw a13 p5 a12 a16 a17 k18 a19 q20 q21 k22 a23 q6 k24 a25 q26 q27 k28 a29 q7 k30 w31 p32 a33 a34 o0 h0 n0 OL0 pr3 pr4 pr5 pr6 pr7 pr8 pr9 pr10 pr11 pr12 pr13 pr14 pr15 pr17 pr18 pr19 pr20 pr21 pr22 pr2 pr23 pr24 pr25 pr1) e0 pr2 213 (LV p1 p2 q3 q4 p5 q6 q7 p8 p9 p10 a11 a12 a13 (iv o1) (iv o0) uu) [(.int p5), (.ref a12)] [] 0 rfl (hb hy at_213) ⟨by decide, by decide, by show cells + 4 ≤ 80; omega, by show slots + 11 ≤ 320; omega⟩
    obtain ⟨rfl, Nq35, K35, u35_0, u35_1, u35_2, u35_3, u35_4⟩ := hQ35
    have OL35 := OL0.keep K35 (allS pr23 all0)
    have N35 := Fr.app N0 Nq35
    have fc37 := (pr2.keep K35)
    obtain ⟨_, _, _, _, XX36, hk36, hN36, sg36⟩ := sg216_0 l Z a0 hw p1 p2 q3 q4 p5 q6 q7 p8 p9 p10 a11 a12 a13 T35.heap n0 OL35 u35_4 fc37 ⟨hZ, hx, hy, hml, ho, hnm, hret, X35, rfl, N35⟩ (by show cells + 4 + 0 ≤ 80; omega) (by show slots + 11 + 0 ≤ 320; omega)
    refine ⟨_, _, _, _, XX36, hk36, hN36, fun fs hr => pre14 _ ?_⟩
    refine XS.ifNo X0.here hx rfl (hb hy at_204) rfl ((if0 _ _).trans (feq hf14).1) ?_
    refine xaload X0 hx hy at_207 rfl rfl ?_
    refine xiload X0 hx hy at_209 rfl ?_
    refine xaload X0 hx hy at_211 rfl rfl ?_
    refine st35 _ ?_
    exact sg36 fs hr
theorem sg199_7 (l : Launch) (Z : State) (a0 : Array Value) (hw : HW a0 Z) (p1 p2 : Int32) (q3 q4 : Int64) (p5 : Int32) (q6 q7 : Int64) (p8 p9 p10 : Int32) (a11 a12 a13 a16 a17 : Addr) (k18 : ClassId) (a19 : Addr) (q20 q21 : Int64) (k22 : ClassId) (a23 : Addr) (k24 : ClassId) (a25 : Addr) (q26 q27 : Int64) (k28 : ClassId) (a29 : Addr) (k30 : ClassId) (w31 : Addr) (p32 : Int32) (a33 a34 : Addr) (h0 : Heap) (n0 : Nat) (OL0 : Old Z n0 h0) (pr1 : Fld Z h0 a13 s45 s48 "Z" vi1) (pr2 : Exa Z h0 a13 s45) (pr3 : Fld Z h0 a13 s45 "sets" s8 (.ref a16)) (pr4 : Asl Z h0 a16 k18 tV o12 p5 (.ref a17)) (pr5 : Fld Z h0 a17 s43 "lows" "[J" (.ref a19)) (pr6 : Arv Z h0 a19 k22 .long o2 [(.long q20), (.long q21)] lj0) (pr7 : Fld Z h0 a12 s43 "lows" "[J" (.ref a23)) (pr8 : Arv Z h0 a23 k24 .long o1 [(.long q6)] lj0) (pr9 : Fld Z h0 a17 s43 "highs" "[J" (.ref a25)) (pr10 : Arv Z h0 a25 k28 .long o2 [(.long q26), (.long q27)] lj0) (pr11 : Fld Z h0 a12 s43 "highs" "[J" (.ref a29)) (pr12 : Arv Z h0 a29 k30 .long o1 [(.long q7)] lj0) (pr13 : (own_jmin q26 q7) < (own_jmax q20 q6)) (pr14 : q26 < q7) (pr15 : (own_jmin q27 q7) < (own_jmax q21 q6)) (pr16 : ¬ ((281474976710656 : Int64) < q7)) (pr17 : ¬ (q27 < q7)) (pr18 : Sta Z Z.heap s32 "EMPTY" s6 (.ref w31)) (pr19 : Exa Z h0 a17 s43) (pr20 : Fld Z h0 a13 s45 s15 "Z" (.int p32)) (pr21 : Fld Z Z.heap w31 s32 "value" s3 .null) (pr22 : Exa Z Z.heap w31 s32) (pr23 : n0 ≤ a13) (pr24 : Fld Z h0 a13 s45 s11 s5 (.ref a33)) (pr25 : Fld Z h0 a13 s45 s16 s5 (.ref a34))
    (st0 : ST Z p l e s m args below meth c T0 locs cells slots h0 n0) (hcl : cells + 4 ≤ 80) (hsl : slots + 11 ≤ 320) : SG p l e s m args below meth c T0 n0 199 (LV p1 p2 q3 q4 p5 q6 q7 p8 p9 p10 a11 a12 a13 (iv o1) (iv o1) uu) := by
  obtain ⟨hZ, hx, hy, hml, ho, hnm, hret, X0, e0, N0⟩ := st0
  have pre0 : ∀ t, SS p e below T0 m 199 (LV p1 p2 q3 q4 p5 q6 q7 p8 p9 p10 a11 a12 a13 (iv o1) (iv o1) uu) [] t → SS p e below T0 m 199 (LV p1 p2 q3 q4 p5 q6 q7 p8 p9 p10 a11 a12 a13 (iv o1) (iv o1) uu) [] t := fun _ k => k
  have pre14 : ∀ t, SS p e below T0 m 204 (LV p1 p2 q3 q4 p5 q6 q7 p8 p9 p10 a11 a12 a13 (iv o1) (iv o1) uu) [(.int (p1 &&& (128 : Int32)))] t → SS p e below T0 m 199 (LV p1 p2 q3 q4 p5 q6 q7 p8 p9 p10 a11 a12 a13 (iv o1) (iv o1) uu) [] t := by
    intro t kt
    refine pre0 _ ?_
    refine xiloadN X0 hx hy at_199 rfl ?_
    refine XS.sipush X0.here hx rfl (hb hy at_200) ?_
    refine XS.iand X0.here hx rfl (hb hy at_203) rfl ?_
    exact kt
  by_cases hf14 : (p1 &&& (128 : Int32)) = o0
  · obtain ⟨_, _, _, _, XX15, hk15, hN15, sg15⟩ := sg216_1 l Z a0 hw p1 p2 q3 q4 p5 q6 q7 p8 p9 p10 a11 a12 a13 h0 n0 OL0 pr1 pr2 ⟨hZ, hx, hy, hml, ho, hnm, hret, X0, e0, N0⟩ (by show cells + 0 ≤ 80; omega) (by show slots + 0 ≤ 320; omega)
    refine ⟨_, _, _, _, XX15, hk15, hN15, fun fs hr => pre14 _ ?_⟩
    refine XS.ifYes X0.here hx rfl (pc0 := 204) (pc' := 216) rfl (hb hy at_204) rfl ((if0 _ _).trans (teq hf14).1) (by decide) (by decide) ?_
    exact sg15 fs hr
  · obtain ⟨_, T35, L35, X35, hQ35, st35⟩ := own_cV X0 hx hZ ho hml (cw12 hw) (rm29_3 l Z a0 hw a13 p5 a12 a16 a17 k18 a19 q20 q21 k22 a23 q6 k24 a25 q26 q27 k28 a29 q7 k30 w31 p32 a33 a34 o1 h0 n0 OL0 pr3 pr4 pr5 pr6 pr7 pr8 pr9 pr10 pr11 pr12 pr13 pr14 pr15 pr17 pr18 pr19 pr20 pr21 pr22 pr2 pr23 pr24 pr25 pr1) e0 pr2 213 (LV p1 p2 q3 q4 p5 q6 q7 p8 p9 p10 a11 a12 a13 (iv o1) (iv o1) uu) [(.int p5), (.ref a12)] [] 0 rfl (hb hy at_213) ⟨by decide, by decide, by show cells + 4 ≤ 80; omega, by show slots + 11 ≤ 320; omega⟩
    obtain ⟨rfl, Nq35, K35, u35_0, u35_1, u35_2, u35_3, u35_4⟩ := hQ35
    have OL35 := OL0.keep K35 (allS pr23 all0)
    have N35 := Fr.app N0 Nq35
    have fc37 := (pr2.keep K35)
    obtain ⟨_, _, _, _, XX36, hk36, hN36, sg36⟩ := sg216_1 l Z a0 hw p1 p2 q3 q4 p5 q6 q7 p8 p9 p10 a11 a12 a13 T35.heap n0 OL35 u35_4 fc37 ⟨hZ, hx, hy, hml, ho, hnm, hret, X35, rfl, N35⟩ (by show cells + 4 + 0 ≤ 80; omega) (by show slots + 11 + 0 ≤ 320; omega)
    refine ⟨_, _, _, _, XX36, hk36, hN36, fun fs hr => pre14 _ ?_⟩
    refine XS.ifNo X0.here hx rfl (hb hy at_204) rfl ((if0 _ _).trans (feq hf14).1) ?_
    refine xaload X0 hx hy at_207 rfl rfl ?_
    refine xiload X0 hx hy at_209 rfl ?_
    refine xaload X0 hx hy at_211 rfl rfl ?_
    refine st35 _ ?_
    exact sg36 fs hr
theorem sg168_3 (l : Launch) (Z : State) (a0 : Array Value) (hw : HW a0 Z) (p1 p2 : Int32) (q3 q4 : Int64) (p5 : Int32) (q6 q7 : Int64) (p8 p9 p10 : Int32) (a11 a12 a13 a16 a17 : Addr) (k18 : ClassId) (a19 : Addr) (q20 q21 : Int64) (k22 : ClassId) (a23 : Addr) (k24 : ClassId) (a25 : Addr) (q26 q27 : Int64) (k28 : ClassId) (a29 : Addr) (k30 : ClassId) (w31 : Addr) (p32 : Int32) (a33 a34 : Addr) (h0 : Heap) (n0 : Nat) (OL0 : Old Z n0 h0) (pr1 : Fld Z h0 a13 s45 s48 "Z" vi0) (pr2 : Exa Z h0 a13 s45) (pr3 : Fld Z h0 a13 s45 "sets" s8 (.ref a16)) (pr4 : Asl Z h0 a16 k18 tV o12 p5 (.ref a17)) (pr5 : Fld Z h0 a17 s43 "lows" "[J" (.ref a19)) (pr6 : Arv Z h0 a19 k22 .long o2 [(.long q20), (.long q21)] lj0) (pr7 : Fld Z h0 a12 s43 "lows" "[J" (.ref a23)) (pr8 : Arv Z h0 a23 k24 .long o1 [(.long q6)] lj0) (pr9 : Fld Z h0 a17 s43 "highs" "[J" (.ref a25)) (pr10 : Arv Z h0 a25 k28 .long o2 [(.long q26), (.long q27)] lj0) (pr11 : Fld Z h0 a12 s43 "highs" "[J" (.ref a29)) (pr12 : Arv Z h0 a29 k30 .long o1 [(.long q7)] lj0) (pr13 : (own_jmin q26 q7) < (own_jmax q20 q6)) (pr14 : q26 < q7) (pr15 : (own_jmin q27 q7) < (own_jmax q21 q6)) (pr16 : ¬ ((281474976710656 : Int64) < q7)) (pr17 : ¬ (q27 < q7)) (pr18 : Sta Z Z.heap s32 "EMPTY" s6 (.ref w31)) (pr19 : Exa Z h0 a17 s43) (pr20 : Fld Z h0 a13 s45 s15 "Z" (.int p32)) (pr21 : Fld Z Z.heap w31 s32 "value" s3 .null) (pr22 : Exa Z Z.heap w31 s32) (pr23 : n0 ≤ a13) (pr24 : Fld Z h0 a13 s45 s11 s5 (.ref a33)) (pr25 : Fld Z h0 a13 s45 s16 s5 (.ref a34)) (pr26 : a16 ≠ a13) (pr27 : a17 ≠ a13) (pr28 : a19 ≠ a13) (pr29 : a12 ≠ a13) (pr30 : a23 ≠ a13) (pr31 : a25 ≠ a13) (pr32 : a29 ≠ a13)
    (st0 : ST Z p l e s m args below meth c T0 locs cells slots h0 n0) (hcl : cells + 4 ≤ 80) (hsl : slots + 11 ≤ 320) : SG p l e s m args below meth c T0 n0 168 (LV p1 p2 q3 q4 p5 q6 q7 p8 p9 p10 a11 a12 a13 uu uu uu) := by
  obtain ⟨hZ, hx, hy, hml, ho, hnm, hret, X0, e0, N0⟩ := st0
  have pre0 : ∀ t, SS p e below T0 m 168 (LV p1 p2 q3 q4 p5 q6 q7 p8 p9 p10 a11 a12 a13 uu uu uu) [] t → SS p e below T0 m 168 (LV p1 p2 q3 q4 p5 q6 q7 p8 p9 p10 a11 a12 a13 uu uu uu) [] t := fun _ k => k
  obtain ⟨_, T14, L14, X14, hQ14, st14⟩ := own_cV X0 hx hZ ho hml (cw11 hw) (rm13_0 l Z a0 hw a13 h0 n0 OL0 pr1) e0 pr2 170 (LV p1 p2 q3 q4 p5 q6 q7 p8 p9 p10 a11 a12 a13 uu uu uu) [] [] 0 rfl (hb hy at_170) ⟨by decide, by decide, by show cells + 0 ≤ 80; omega, by show slots + 0 ≤ 320; omega⟩
  obtain ⟨rfl, Nq14, ec14⟩ := hQ14
  have N14 := Fr.app N0 Nq14
  have pre15 : ∀ t, SS p e below T14 m 179 (LV p1 p2 q3 q4 p5 q6 q7 p8 p9 p10 a11 a12 a13 (iv o1) uu uu) [(.int (p1 &&& (64 : Int32)))] t → SS p e below T0 m 168 (LV p1 p2 q3 q4 p5 q6 q7 p8 p9 p10 a11 a12 a13 uu uu uu) [] t := by
    intro t kt
    refine pre0 _ ?_
    refine xaload X0 hx hy at_168 rfl rfl ?_
    refine st14 _ ?_
    refine XS.istore X14.here hx rfl (hb hy at_173) rfl (l' := (LV p1 p2 q3 q4 p5 q6 q7 p8 p9 p10 a11 a12 a13 (iv o1) uu uu)) rfl ?_
    refine xiloadN X14 hx hy at_175 rfl ?_
    refine XS.bipush X14.here hx rfl (hb hy at_176) ?_
    refine XS.iand X14.here hx rfl (hb hy at_178) rfl ?_
    exact kt
  by_cases hf15 : (p1 &&& (64 : Int32)) = o0
  · obtain ⟨_, _, _, _, XX35, hk35, hN35, sg35⟩ := sg199_6 l Z a0 hw p1 p2 q3 q4 p5 q6 q7 p8 p9 p10 a11 a12 a13 a16 a17 k18 a19 q20 q21 k22 a23 k24 a25 q26 q27 k28 a29 k30 w31 p32 a33 a34 h0 n0 OL0 pr1 pr2 pr3 pr4 pr5 pr6 pr7 pr8 pr9 pr10 pr11 pr12 pr13 pr14 pr15 pr16 pr17 pr18 pr19 pr20 pr21 pr22 pr23 pr24 pr25 ⟨hZ, hx, hy, hml, ho, hnm, hret, X14, ec14, N14⟩ (by show cells + 0 + 4 ≤ 80; omega) (by show slots + 0 + 11 ≤ 320; omega)
    refine ⟨_, _, _, _, XX35, hk35, hN35, fun fs hr => pre15 _ ?_⟩
    refine XS.ifYes X14.here hx rfl (pc0 := 179) (pc' := 186) rfl (hb hy at_179) rfl ((if0 _ _).trans (teq hf15).1) (by decide) (by decide) ?_
    refine XS.iconst X14.here hx rfl (hb hy at_186) ?_
    refine XS.istore X14.here hx rfl (hb hy at_187) rfl (l' := (LV p1 p2 q3 q4 p5 q6 q7 p8 p9 p10 a11 a12 a13 (iv o1) (iv o0) uu)) rfl ?_
    refine xiload X14 hx hy at_189 rfl ?_
    refine XS.ifYes X14.here hx rfl (pc0 := 191) (pc' := 199) rfl (hb hy at_191) rfl ((if0 _ _).trans (teq (rfl : o0 = o0)).1) (by decide) (by decide) ?_
    exact sg35 fs hr
  · obtain ⟨_, T36, L36, X36, hQ36, st36⟩ := own_cV X14 hx hZ ho hml (cw13 hw) (rm43_0 l Z a0 hw a13 a33 p32 a34 a16 h0 n0 OL0 pr2 pr1 pr23 pr24 pr20 pr25 pr3) ec14 pr2 196 (LV p1 p2 q3 q4 p5 q6 q7 p8 p9 p10 a11 a12 a13 (iv o1) (iv o1) uu) [] [] 0 rfl (hb hy at_196) ⟨by decide, by decide, by show cells + 0 + 0 ≤ 80; omega, by show slots + 0 + 0 ≤ 320; omega⟩
    obtain ⟨rfl, Nq36, K36, u36_0, u36_1, u36_2, u36_3, u36_4⟩ := hQ36
    have OL36 := OL0.keep K36 (allS pr23 all0)
    have N36 := Fr.app N14 Nq36
    have fc38 := (pr2.keep K36)
    have fc39 := (pr4.keep K36 (ninS pr26 nin0))
    have fc40 := (pr5.keep K36 (ninS pr27 nin0))
    have fc41 := (pr6.keep K36 (ninS pr28 nin0))
    have fc42 := (pr7.keep K36 (ninS pr29 nin0))
    have fc43 := (pr8.keep K36 (ninS pr30 nin0))
    have fc44 := (pr9.keep K36 (ninS pr27 nin0))
    have fc45 := (pr10.keep K36 (ninS pr31 nin0))
    have fc46 := (pr11.keep K36 (ninS pr29 nin0))
    have fc47 := (pr12.keep K36 (ninS pr32 nin0))
    have fc48 := (pr19.keep K36)
    obtain ⟨_, _, _, _, XX37, hk37, hN37, sg37⟩ := sg199_7 l Z a0 hw p1 p2 q3 q4 p5 q6 q7 p8 p9 p10 a11 a12 a13 a16 a17 k18 a19 q20 q21 k22 a23 k24 a25 q26 q27 k28 a29 k30 w31 p32 a33 a34 T36.heap n0 OL36 u36_0 fc38 u36_4 fc39 fc40 fc41 fc42 fc43 fc44 fc45 fc46 fc47 pr13 pr14 pr15 pr16 pr17 pr18 fc48 u36_2 pr21 pr22 pr23 u36_1 u36_3 ⟨hZ, hx, hy, hml, ho, hnm, hret, X36, rfl, N36⟩ (by show cells + 0 + 0 + 4 ≤ 80; omega) (by show slots + 0 + 0 + 11 ≤ 320; omega)
    refine ⟨_, _, _, _, XX37, hk37, hN37, fun fs hr => pre15 _ ?_⟩
    refine XS.ifNo X14.here hx rfl (hb hy at_179) rfl ((if0 _ _).trans (feq hf15).1) ?_
    refine XS.iconst X14.here hx rfl (hb hy at_182) ?_
    refine XS.goto X14.here hx rfl (pc0 := 183) (pc' := 187) rfl (hb hy at_183) (by decide) (by decide) ?_
    refine XS.istore X14.here hx rfl (hb hy at_187) rfl (l' := (LV p1 p2 q3 q4 p5 q6 q7 p8 p9 p10 a11 a12 a13 (iv o1) (iv o1) uu)) rfl ?_
    refine xiload X14 hx hy at_189 rfl ?_
    refine XS.ifNo X14.here hx rfl (hb hy at_191) rfl ((if0 _ _).trans (feq (by decide : ¬ (o1 = o0))).1) ?_
    refine xaload X14 hx hy at_194 rfl rfl ?_
    refine st36 _ ?_
    exact sg37 fs hr
theorem sg150_3 (l : Launch) (Z : State) (a0 : Array Value) (hw : HW a0 Z) (p1 p2 : Int32) (q3 q4 : Int64) (p5 : Int32) (q6 q7 : Int64) (p8 p9 p10 : Int32) (a11 a12 a13 a15 a16 : Addr) (k17 : ClassId) (a18 : Addr) (q19 q20 : Int64) (k21 : ClassId) (a22 : Addr) (k23 : ClassId) (a24 : Addr) (q25 q26 : Int64) (k27 : ClassId) (a28 : Addr) (k29 : ClassId) (w30 : Addr) (p31 : Int32) (a32 a33 w35 : Addr) (k36 : ClassId) (h0 : Heap) (n0 : Nat) (OL0 : Old Z n0 h0) (pr1 : Fld Z h0 a13 s45 s48 "Z" vi0) (pr2 : Exa Z h0 a13 s45) (pr3 : Fld Z h0 a13 s45 "sets" s8 (.ref a15)) (pr4 : Asl Z h0 a15 k17 tV o12 p5 (.ref a16)) (pr5 : Fld Z h0 a16 s43 "lows" "[J" (.ref a18)) (pr6 : Arv Z h0 a18 k21 .long o2 [(.long q19), (.long q20)] lj0) (pr7 : Fld Z h0 a12 s43 "lows" "[J" (.ref a22)) (pr8 : Arv Z h0 a22 k23 .long o1 [(.long q6)] lj0) (pr9 : Fld Z h0 a16 s43 "highs" "[J" (.ref a24)) (pr10 : Arv Z h0 a24 k27 .long o2 [(.long q25), (.long q26)] lj0) (pr11 : Fld Z h0 a12 s43 "highs" "[J" (.ref a28)) (pr12 : Arv Z h0 a28 k29 .long o1 [(.long q7)] lj0) (pr13 : (own_jmin q25 q7) < (own_jmax q19 q6)) (pr14 : q25 < q7) (pr15 : (own_jmin q26 q7) < (own_jmax q20 q6)) (pr16 : ¬ ((281474976710656 : Int64) < q7)) (pr17 : ¬ (q26 < q7)) (pr18 : Sta Z Z.heap s32 "EMPTY" s6 (.ref w30)) (pr19 : Exa Z h0 a16 s43) (pr20 : Fld Z h0 a13 s45 s15 "Z" (.int p31)) (pr21 : Fld Z Z.heap w30 s32 "value" s3 .null) (pr22 : Exa Z Z.heap w30 s32) (pr23 : n0 ≤ a13) (pr24 : Fld Z h0 a13 s45 s11 s5 (.ref a32)) (pr25 : Fld Z h0 a13 s45 s16 s5 (.ref a33)) (pr26 : a15 ≠ a13) (pr27 : a16 ≠ a13) (pr28 : a18 ≠ a13) (pr29 : a12 ≠ a13) (pr30 : a22 ≠ a13) (pr31 : a24 ≠ a13) (pr32 : a28 ≠ a13) (pr33 : Fld Z h0 a33 s26 s36 "I" vi0) (pr34 : Exa Z h0 a33 s27) (pr35 : n0 ≤ a33) (pr36 : Fld Z h0 a33 s27 s12 s7 (.ref w35)) (pr37 : Fld Z h0 a33 s27 "size" "I" vi0) (pr38 : Arv Z Z.heap w35 k36 (.object s20) o0 [] .null) (pr39 : Sta Z Z.heap s27 s1 s7 (.ref w35)) (pr40 : a13 ≠ a33) (pr41 : a15 ≠ a33) (pr42 : a16 ≠ a33) (pr43 : a18 ≠ a33) (pr44 : a12 ≠ a33) (pr45 : a22 ≠ a33) (pr46 : a24 ≠ a33) (pr47 : a28 ≠ a33)
    (st0 : ST Z p l e s m args below meth c T0 locs cells slots h0 n0) (hcl : cells + 6 ≤ 80) (hsl : slots + 24 ≤ 320) : SG p l e s m args below meth c T0 n0 150 (LV p1 p2 q3 q4 p5 q6 q7 p8 p9 p10 a11 a12 a13 uu uu uu) := by
  obtain ⟨hZ, hx, hy, hml, ho, hnm, hret, X0, e0, N0⟩ := st0
  have pre0 : ∀ t, SS p e below T0 m 150 (LV p1 p2 q3 q4 p5 q6 q7 p8 p9 p10 a11 a12 a13 uu uu uu) [] t → SS p e below T0 m 150 (LV p1 p2 q3 q4 p5 q6 q7 p8 p9 p10 a11 a12 a13 uu uu uu) [] t := fun _ k => k
  have pre14 : ∀ t, SS p e below T0 m 154 (LV p1 p2 q3 q4 p5 q6 q7 p8 p9 p10 a11 a12 a13 uu uu uu) [(.int (p1 &&& (16 : Int32)))] t → SS p e below T0 m 150 (LV p1 p2 q3 q4 p5 q6 q7 p8 p9 p10 a11 a12 a13 uu uu uu) [] t := by
    intro t kt
    refine pre0 _ ?_
    refine xiloadN X0 hx hy at_150 rfl ?_
    refine XS.bipush X0.here hx rfl (hb hy at_151) ?_
    refine XS.iand X0.here hx rfl (hb hy at_153) rfl ?_
    exact kt
  by_cases hf14 : (p1 &&& (16 : Int32)) = o0
  · obtain ⟨_, _, _, _, XX34, hk34, hN34, sg34⟩ := sg168_3 l Z a0 hw p1 p2 q3 q4 p5 q6 q7 p8 p9 p10 a11 a12 a13 a15 a16 k17 a18 q19 q20 k21 a22 k23 a24 q25 q26 k27 a28 k29 w30 p31 a32 a33 h0 n0 OL0 pr1 pr2 pr3 pr4 pr5 pr6 pr7 pr8 pr9 pr10 pr11 pr12 pr13 pr14 pr15 pr16 pr17 pr18 pr19 pr20 pr21 pr22 pr23 pr24 pr25 pr26 pr27 pr28 pr29 pr30 pr31 pr32 ⟨hZ, hx, hy, hml, ho, hnm, hret, X0, e0, N0⟩ (by show cells + 4 ≤ 80; omega) (by show slots + 11 ≤ 320; omega)
    refine ⟨_, _, _, _, XX34, hk34, hN34, fun fs hr => pre14 _ ?_⟩
    refine XS.ifYes X0.here hx rfl (pc0 := 154) (pc' := 168) rfl (hb hy at_154) rfl ((if0 _ _).trans (teq hf14).1) (by decide) (by decide) ?_
    exact sg34 fs hr
  · obtain ⟨_, T37, L37, X37, hQ37, st37⟩ := own_cV X0 hx hZ ho hml (cw21 hw) (rm40_0 l Z a0 hw a13 p8 a11 p10 a33 w35 k36 h0 n0 OL0 pr25 pr33 pr34 pr35 pr36 pr37 pr38 pr39) e0 pr2 165 (LV p1 p2 q3 q4 p5 q6 q7 p8 p9 p10 a11 a12 a13 uu uu uu) [(.int p8), (.ref a11), (.int p10)] [] 0 rfl (hb hy at_165) ⟨by decide, by decide, by show cells + 2 ≤ 80; omega, by show slots + 13 ≤ 320; omega⟩
    obtain ⟨b37_0, b37_1, kx37_0, rfl, Nq37, K37, u37_0, u37_1, u37_2, u37_3, u37_4, u37_5, u37_6, u37_7, u37_8, u37_9, u37_10, u37_11, u37_12⟩ := hQ37
    have OL37 := OL0.keep K37 (allS pr35 all0)
    have N37 := Fr.app N0 Nq37
    have fc39 := (pr1.keep K37 (ninS pr40 nin0))
    have fc40 := (pr2.keep K37)
    have fc41 := (pr3.keep K37 (ninS pr40 nin0))
    have fc42 := (pr4.keep K37 (ninS pr41 nin0))
    have fc43 := (pr5.keep K37 (ninS pr42 nin0))
    have fc44 := (pr6.keep K37 (ninS pr43 nin0))
    have fc45 := (pr7.keep K37 (ninS pr44 nin0))
    have fc46 := (pr8.keep K37 (ninS pr45 nin0))
    have fc47 := (pr9.keep K37 (ninS pr42 nin0))
    have fc48 := (pr10.keep K37 (ninS pr46 nin0))
    have fc49 := (pr11.keep K37 (ninS pr44 nin0))
    have fc50 := (pr12.keep K37 (ninS pr47 nin0))
    have fc51 := (pr19.keep K37)
    have fc52 := (pr20.keep K37 (ninS pr40 nin0))
    have fc53 := (pr24.keep K37 (ninS pr40 nin0))
    have fc54 := (pr25.keep K37 (ninS pr40 nin0))
    obtain ⟨_, _, _, _, XX38, hk38, hN38, sg38⟩ := sg168_3 l Z a0 hw p1 p2 q3 q4 p5 q6 q7 p8 p9 p10 a11 a12 a13 a15 a16 k17 a18 q19 q20 k21 a22 k23 a24 q25 q26 k27 a28 k29 w30 p31 a32 a33 T37.heap n0 OL37 fc39 fc40 fc41 fc42 fc43 fc44 fc45 fc46 fc47 fc48 fc49 fc50 pr13 pr14 pr15 pr16 pr17 pr18 fc51 fc52 pr21 pr22 pr23 fc53 fc54 pr26 pr27 pr28 pr29 pr30 pr31 pr32 ⟨hZ, hx, hy, hml, ho, hnm, hret, X37, rfl, N37⟩ (by show cells + 2 + 4 ≤ 80; omega) (by show slots + 13 + 11 ≤ 320; omega)
    refine ⟨_, _, _, _, XX38, hk38, hN38, fun fs hr => pre14 _ ?_⟩
    refine XS.ifNo X0.here hx rfl (hb hy at_154) rfl ((if0 _ _).trans (feq hf14).1) ?_
    refine xaload X0 hx hy at_157 rfl rfl ?_
    refine xiload X0 hx hy at_159 rfl ?_
    refine xaload X0 hx hy at_161 rfl rfl ?_
    refine xiload X0 hx hy at_163 rfl ?_
    refine st37 _ ?_
    exact sg38 fs hr
theorem sg136_3 (l : Launch) (Z : State) (a0 : Array Value) (hw : HW a0 Z) (p1 p2 : Int32) (q3 q4 : Int64) (p5 : Int32) (q6 q7 : Int64) (p8 p9 p10 : Int32) (a11 a12 a13 a15 a16 : Addr) (k17 : ClassId) (a18 : Addr) (q19 q20 : Int64) (k21 : ClassId) (a22 : Addr) (k23 : ClassId) (a24 : Addr) (q25 q26 : Int64) (k27 : ClassId) (a28 : Addr) (k29 : ClassId) (w30 : Addr) (p31 : Int32) (a32 a33 w34 : Addr) (k35 : ClassId) (h0 : Heap) (n0 : Nat) (OL0 : Old Z n0 h0) (pr1 : Fld Z h0 a13 s45 s48 "Z" vi0) (pr2 : Exa Z h0 a13 s45) (pr3 : Fld Z h0 a13 s45 "sets" s8 (.ref a15)) (pr4 : Asl Z h0 a15 k17 tV o12 p5 (.ref a16)) (pr5 : Fld Z h0 a16 s43 "lows" "[J" (.ref a18)) (pr6 : Arv Z h0 a18 k21 .long o2 [(.long q19), (.long q20)] lj0) (pr7 : Fld Z h0 a12 s43 "lows" "[J" (.ref a22)) (pr8 : Arv Z h0 a22 k23 .long o1 [(.long q6)] lj0) (pr9 : Fld Z h0 a16 s43 "highs" "[J" (.ref a24)) (pr10 : Arv Z h0 a24 k27 .long o2 [(.long q25), (.long q26)] lj0) (pr11 : Fld Z h0 a12 s43 "highs" "[J" (.ref a28)) (pr12 : Arv Z h0 a28 k29 .long o1 [(.long q7)] lj0) (pr13 : (own_jmin q25 q7) < (own_jmax q19 q6)) (pr14 : q25 < q7) (pr15 : (own_jmin q26 q7) < (own_jmax q20 q6)) (pr16 : ¬ ((281474976710656 : Int64) < q7)) (pr17 : ¬ (q26 < q7)) (pr18 : Sta Z Z.heap s32 "EMPTY" s6 (.ref w30)) (pr19 : Exa Z h0 a16 s43) (pr20 : Fld Z h0 a13 s45 s15 "Z" (.int p31)) (pr21 : Fld Z Z.heap w30 s32 "value" s3 .null) (pr22 : Exa Z Z.heap w30 s32) (pr23 : n0 ≤ a13) (pr24 : Fld Z h0 a13 s45 s11 s5 (.ref a32)) (pr25 : Fld Z h0 a13 s45 s16 s5 (.ref a33)) (pr26 : a15 ≠ a13) (pr27 : a16 ≠ a13) (pr28 : a18 ≠ a13) (pr29 : a12 ≠ a13) (pr30 : a22 ≠ a13) (pr31 : a24 ≠ a13) (pr32 : a28 ≠ a13) (pr33 : Fld Z h0 a33 s26 s36 "I" vi0) (pr34 : Exa Z h0 a33 s27) (pr35 : n0 ≤ a33) (pr36 : Fld Z h0 a33 s27 s12 s7 (.ref w34)) (pr37 : Fld Z h0 a33 s27 "size" "I" vi0) (pr38 : Arv Z Z.heap w34 k35 (.object s20) o0 [] .null) (pr39 : Sta Z Z.heap s27 s1 s7 (.ref w34)) (pr40 : a13 ≠ a33) (pr41 : a15 ≠ a33) (pr42 : a16 ≠ a33) (pr43 : a18 ≠ a33) (pr44 : a12 ≠ a33) (pr45 : a22 ≠ a33) (pr46 : a24 ≠ a33) (pr47 : a28 ≠ a33) (pr48 : Fld Z h0 a32 s26 s36 "I" vi0) (pr49 : Exa Z h0 a32 s27) (pr50 : n0 ≤ a32) (pr51 : Fld Z h0 a32 s27 s12 s7 (.ref w34)) (pr52 : Fld Z h0 a32 s27 "size" "I" vi0) (pr53 : Exa Z h0 a12 s43) (pr54 : a13 ≠ a32) (pr55 : a15 ≠ a32) (pr56 : a16 ≠ a32) (pr57 : a18 ≠ a32) (pr58 : a12 ≠ a32) (pr59 : a22 ≠ a32) (pr60 : a24 ≠ a32) (pr61 : a28 ≠ a32) (pr62 : a33 ≠ a32)
    (st0 : ST Z p l e s m args below meth c T0 locs cells slots h0 n0) (hcl : cells + 7 ≤ 80) (hsl : slots + 34 ≤ 320) : SG p l e s m args below meth c T0 n0 136 (LV p1 p2 q3 q4 p5 q6 q7 p8 p9 p10 a11 a12 a13 uu uu uu) := by
  obtain ⟨hZ, hx, hy, hml, ho, hnm, hret, X0, e0, N0⟩ := st0
  have pre0 : ∀ t, SS p e below T0 m 136 (LV p1 p2 q3 q4 p5 q6 q7 p8 p9 p10 a11 a12 a13 uu uu uu) [] t → SS p e below T0 m 136 (LV p1 p2 q3 q4 p5 q6 q7 p8 p9 p10 a11 a12 a13 uu uu uu) [] t := fun _ k => k
  have pre14 : ∀ t, SS p e below T0 m 140 (LV p1 p2 q3 q4 p5 q6 q7 p8 p9 p10 a11 a12 a13 uu uu uu) [(.int (p1 &&& (8 : Int32)))] t → SS p e below T0 m 136 (LV p1 p2 q3 q4 p5 q6 q7 p8 p9 p10 a11 a12 a13 uu uu uu) [] t := by
    intro t kt
    refine pre0 _ ?_
    refine xiloadN X0 hx hy at_136 rfl ?_
    refine XS.bipush X0.here hx rfl (hb hy at_137) ?_
    refine XS.iand X0.here hx rfl (hb hy at_139) rfl ?_
    exact kt
  by_cases hf14 : (p1 &&& (8 : Int32)) = o0
  · obtain ⟨_, _, _, _, XX36, hk36, hN36, sg36⟩ := sg150_3 l Z a0 hw p1 p2 q3 q4 p5 q6 q7 p8 p9 p10 a11 a12 a13 a15 a16 k17 a18 q19 q20 k21 a22 k23 a24 q25 q26 k27 a28 k29 w30 p31 a32 a33 w34 k35 h0 n0 OL0 pr1 pr2 pr3 pr4 pr5 pr6 pr7 pr8 pr9 pr10 pr11 pr12 pr13 pr14 pr15 pr16 pr17 pr18 pr19 pr20 pr21 pr22 pr23 pr24 pr25 pr26 pr27 pr28 pr29 pr30 pr31 pr32 pr33 pr34 pr35 pr36 pr37 pr38 pr39 pr40 pr41 pr42 pr43 pr44 pr45 pr46 pr47 ⟨hZ, hx, hy, hml, ho, hnm, hret, X0, e0, N0⟩ (by show cells + 6 ≤ 80; omega) (by show slots + 24 ≤ 320; omega)
    refine ⟨_, _, _, _, XX36, hk36, hN36, fun fs hr => pre14 _ ?_⟩
    refine XS.ifYes X0.here hx rfl (pc0 := 140) (pc' := 150) rfl (hb hy at_140) rfl ((if0 _ _).trans (teq hf14).1) (by decide) (by decide) ?_
    exact sg36 fs hr
  · obtain ⟨_, T37, L37, X37, hQ37, st37⟩ := own_cV X0 hx hZ ho hml (cw22 hw) (rm30_0 l Z a0 hw a13 a12 a32 w34 k35 h0 n0 OL0 pr24 pr48 pr49 pr50 pr51 pr52 pr38 pr39 pr53) e0 pr2 147 (LV p1 p2 q3 q4 p5 q6 q7 p8 p9 p10 a11 a12 a13 uu uu uu) [(.ref a12)] [] 0 rfl (hb hy at_147) ⟨by decide, by decide, by show cells + 1 ≤ 80; omega, by show slots + 10 ≤ 320; omega⟩
    obtain ⟨b37_0, kx37_0, rfl, Nq37, K37, u37_0, u37_1, u37_2, u37_3, u37_4, u37_5, u37_6⟩ := hQ37
    have OL37 := OL0.keep K37 (allS pr50 all0)
    have N37 := Fr.app N0 Nq37
    have fc39 := (pr1.keep K37 (ninS pr54 nin0))
    have fc40 := (pr2.keep K37)
    have fc41 := (pr3.keep K37 (ninS pr54 nin0))
    have fc42 := (pr4.keep K37 (ninS pr55 nin0))
    have fc43 := (pr5.keep K37 (ninS pr56 nin0))
    have fc44 := (pr6.keep K37 (ninS pr57 nin0))
    have fc45 := (pr7.keep K37 (ninS pr58 nin0))
    have fc46 := (pr8.keep K37 (ninS pr59 nin0))
    have fc47 := (pr9.keep K37 (ninS pr56 nin0))
    have fc48 := (pr10.keep K37 (ninS pr60 nin0))
    have fc49 := (pr11.keep K37 (ninS pr58 nin0))
    have fc50 := (pr12.keep K37 (ninS pr61 nin0))
    have fc51 := (pr19.keep K37)
    have fc52 := (pr20.keep K37 (ninS pr54 nin0))
    have fc53 := (pr24.keep K37 (ninS pr54 nin0))
    have fc54 := (pr25.keep K37 (ninS pr54 nin0))
    have fc55 := (pr33.keep K37 (ninS pr62 nin0))
    have fc56 := (pr34.keep K37)
    have fc57 := (pr36.keep K37 (ninS pr62 nin0))
    have fc58 := (pr37.keep K37 (ninS pr62 nin0))
    obtain ⟨_, _, _, _, XX38, hk38, hN38, sg38⟩ := sg150_3 l Z a0 hw p1 p2 q3 q4 p5 q6 q7 p8 p9 p10 a11 a12 a13 a15 a16 k17 a18 q19 q20 k21 a22 k23 a24 q25 q26 k27 a28 k29 w30 p31 a32 a33 w34 k35 T37.heap n0 OL37 fc39 fc40 fc41 fc42 fc43 fc44 fc45 fc46 fc47 fc48 fc49 fc50 pr13 pr14 pr15 pr16 pr17 pr18 fc51 fc52 pr21 pr22 pr23 fc53 fc54 pr26 pr27 pr28 pr29 pr30 pr31 pr32 fc55 fc56 pr35 fc57 fc58 pr38 pr39 pr40 pr41 pr42 pr43 pr44 pr45 pr46 pr47 ⟨hZ, hx, hy, hml, ho, hnm, hret, X37, rfl, N37⟩ (by show cells + 1 + 6 ≤ 80; omega) (by show slots + 10 + 24 ≤ 320; omega)
    refine ⟨_, _, _, _, XX38, hk38, hN38, fun fs hr => pre14 _ ?_⟩
    refine XS.ifNo X0.here hx rfl (hb hy at_140) rfl ((if0 _ _).trans (feq hf14).1) ?_
    refine xaload X0 hx hy at_143 rfl rfl ?_
    refine xaload X0 hx hy at_145 rfl rfl ?_
    refine st37 _ ?_
    exact sg38 fs hr
theorem sg125_3 (l : Launch) (Z : State) (a0 : Array Value) (hw : HW a0 Z) (p1 p2 : Int32) (q3 q4 : Int64) (p5 : Int32) (q6 q7 : Int64) (p8 p9 p10 : Int32) (a11 a12 a13 a15 a16 : Addr) (k17 : ClassId) (a18 : Addr) (q19 q20 : Int64) (k21 : ClassId) (a22 : Addr) (k23 : ClassId) (a24 : Addr) (q25 q26 : Int64) (k27 : ClassId) (a28 : Addr) (k29 : ClassId) (w30 : Addr) (p31 : Int32) (a32 a33 w34 : Addr) (k35 : ClassId) (q38 : Int64) (h0 : Heap) (n0 : Nat) (OL0 : Old Z n0 h0) (pr1 : Fld Z h0 a13 s45 s48 "Z" vi0) (pr2 : Exa Z h0 a13 s45) (pr3 : Fld Z h0 a13 s45 "sets" s8 (.ref a15)) (pr4 : Asl Z h0 a15 k17 tV o12 p5 (.ref a16)) (pr5 : Fld Z h0 a16 s43 "lows" "[J" (.ref a18)) (pr6 : Arv Z h0 a18 k21 .long o2 [(.long q19), (.long q20)] lj0) (pr7 : Fld Z h0 a12 s43 "lows" "[J" (.ref a22)) (pr8 : Arv Z h0 a22 k23 .long o1 [(.long q6)] lj0) (pr9 : Fld Z h0 a16 s43 "highs" "[J" (.ref a24)) (pr10 : Arv Z h0 a24 k27 .long o2 [(.long q25), (.long q26)] lj0) (pr11 : Fld Z h0 a12 s43 "highs" "[J" (.ref a28)) (pr12 : Arv Z h0 a28 k29 .long o1 [(.long q7)] lj0) (pr13 : (own_jmin q25 q7) < (own_jmax q19 q6)) (pr14 : q25 < q7) (pr15 : (own_jmin q26 q7) < (own_jmax q20 q6)) (pr16 : ¬ ((281474976710656 : Int64) < q7)) (pr17 : ¬ (q26 < q7)) (pr18 : Sta Z Z.heap s32 "EMPTY" s6 (.ref w30)) (pr19 : Exa Z h0 a16 s43) (pr20 : Fld Z h0 a13 s45 s15 "Z" (.int p31)) (pr21 : Fld Z Z.heap w30 s32 "value" s3 .null) (pr22 : Exa Z Z.heap w30 s32) (pr23 : n0 ≤ a13) (pr24 : Fld Z h0 a13 s45 s11 s5 (.ref a32)) (pr25 : Fld Z h0 a13 s45 s16 s5 (.ref a33)) (pr26 : a15 ≠ a13) (pr27 : a16 ≠ a13) (pr28 : a18 ≠ a13) (pr29 : a12 ≠ a13) (pr30 : a22 ≠ a13) (pr31 : a24 ≠ a13) (pr32 : a28 ≠ a13) (pr33 : Fld Z h0 a33 s26 s36 "I" vi0) (pr34 : Exa Z h0 a33 s27) (pr35 : n0 ≤ a33) (pr36 : Fld Z h0 a33 s27 s12 s7 (.ref w34)) (pr37 : Fld Z h0 a33 s27 "size" "I" vi0) (pr38 : Arv Z Z.heap w34 k35 (.object s20) o0 [] .null) (pr39 : Sta Z Z.heap s27 s1 s7 (.ref w34)) (pr40 : a13 ≠ a33) (pr41 : a15 ≠ a33) (pr42 : a16 ≠ a33) (pr43 : a18 ≠ a33) (pr44 : a12 ≠ a33) (pr45 : a22 ≠ a33) (pr46 : a24 ≠ a33) (pr47 : a28 ≠ a33) (pr48 : Fld Z h0 a32 s26 s36 "I" vi0) (pr49 : Exa Z h0 a32 s27) (pr50 : n0 ≤ a32) (pr51 : Fld Z h0 a32 s27 s12 s7 (.ref w34)) (pr52 : Fld Z h0 a32 s27 "size" "I" vi0) (pr53 : Exa Z h0 a12 s43) (pr54 : a13 ≠ a32) (pr55 : a15 ≠ a32) (pr56 : a16 ≠ a32) (pr57 : a18 ≠ a32) (pr58 : a12 ≠ a32) (pr59 : a22 ≠ a32) (pr60 : a24 ≠ a32) (pr61 : a28 ≠ a32) (pr62 : a33 ≠ a32) (pr63 : Arv Z h0 a18 k21 .long o2 [(.long q38), (.long q20)] lj0) (pr64 : (own_jmin q25 q7) < (own_jmax q38 q6)) (pr65 : a33 ≠ a13) (pr66 : a32 ≠ a13)
    (st0 : ST Z p l e s m args below meth c T0 locs cells slots h0 n0) (hcl : cells + 7 ≤ 80) (hsl : slots + 34 ≤ 320) : SG p l e s m args below meth c T0 n0 125 (LV p1 p2 q3 q4 p5 q6 q7 p8 p9 p10 a11 a12 a13 uu uu uu) := by
  obtain ⟨hZ, hx, hy, hml, ho, hnm, hret, X0, e0, N0⟩ := st0
  have pre0 : ∀ t, SS p e below T0 m 125 (LV p1 p2 q3 q4 p5 q6 q7 p8 p9 p10 a11 a12 a13 uu uu uu) [] t → SS p e below T0 m 125 (LV p1 p2 q3 q4 p5 q6 q7 p8 p9 p10 a11 a12 a13 uu uu uu) [] t := fun _ k => k
  have pre14 : ∀ t, SS p e below T0 m 128 (LV p1 p2 q3 q4 p5 q6 q7 p8 p9 p10 a11 a12 a13 uu uu uu) [(.int (p1 &&& (4 : Int32)))] t → SS p e below T0 m 125 (LV p1 p2 q3 q4 p5 q6 q7 p8 p9 p10 a11 a12 a13 uu uu uu) [] t := by
    intro t kt
    refine pre0 _ ?_
    refine xiloadN X0 hx hy at_125 rfl ?_
    refine XS.iconst X0.here hx rfl (hb hy at_126) ?_
    refine XS.iand X0.here hx rfl (hb hy at_127) rfl ?_
    exact kt
  by_cases hf14 : (p1 &&& (4 : Int32)) = o0
  · obtain ⟨_, _, _, _, XX36, hk36, hN36, sg36⟩ := sg136_3 l Z a0 hw p1 p2 q3 q4 p5 q6 q7 p8 p9 p10 a11 a12 a13 a15 a16 k17 a18 q19 q20 k21 a22 k23 a24 q25 q26 k27 a28 k29 w30 p31 a32 a33 w34 k35 h0 n0 OL0 pr1 pr2 pr3 pr4 pr5 pr6 pr7 pr8 pr9 pr10 pr11 pr12 pr13 pr14 pr15 pr16 pr17 pr18 pr19 pr20 pr21 pr22 pr23 pr24 pr25 pr26 pr27 pr28 pr29 pr30 pr31 pr32 pr33 pr34 pr35 pr36 pr37 pr38 pr39 pr40 pr41 pr42 pr43 pr44 pr45 pr46 pr47 pr48 pr49 pr50 pr51 pr52 pr53 pr54 pr55 pr56 pr57 pr58 pr59 pr60 pr61 pr62 ⟨hZ, hx, hy, hml, ho, hnm, hret, X0, e0, N0⟩ (by show cells + 7 ≤ 80; omega) (by show slots + 34 ≤ 320; omega)
    refine ⟨_, _, _, _, XX36, hk36, hN36, fun fs hr => pre14 _ ?_⟩
    refine XS.ifYes X0.here hx rfl (pc0 := 128) (pc' := 136) rfl (hb hy at_128) rfl ((if0 _ _).trans (teq hf14).1) (by decide) (by decide) ?_
    exact sg36 fs hr
  · obtain ⟨_, T37, L37, X37, hQ37, st37⟩ := own_cV X0 hx hZ ho hml (cw23 hw) (rm44_0 l Z a0 hw a13 p31 a32 a33 a15 h0 n0 OL0 pr2 pr20 pr23 pr24 pr25 pr3 pr1) e0 pr2 133 (LV p1 p2 q3 q4 p5 q6 q7 p8 p9 p10 a11 a12 a13 uu uu uu) [] [] 0 rfl (hb hy at_133) ⟨by decide, by decide, by show cells + 0 ≤ 80; omega, by show slots + 0 ≤ 320; omega⟩
    obtain ⟨rfl, Nq37, K37, u37_0, u37_1, u37_2, u37_3, u37_4⟩ := hQ37
    have OL37 := OL0.keep K37 (allS pr23 all0)
    have N37 := Fr.app N0 Nq37
    have fc40 := (pr2.keep K37)
    have fc41 := (pr4.keep K37 (ninS pr26 nin0))
    have fc42 := (pr5.keep K37 (ninS pr27 nin0))
    have fc43 := (pr63.keep K37 (ninS pr28 nin0))
    have fc44 := (pr7.keep K37 (ninS pr29 nin0))
    have fc45 := (pr8.keep K37 (ninS pr30 nin0))
    have fc46 := (pr9.keep K37 (ninS pr27 nin0))
    have fc47 := (pr10.keep K37 (ninS pr31 nin0))
    have fc48 := (pr11.keep K37 (ninS pr29 nin0))
    have fc49 := (pr12.keep K37 (ninS pr32 nin0))
    have fc50 := (pr19.keep K37)
    have fc51 := (pr33.keep K37 (ninS pr65 nin0))
    have fc52 := (pr34.keep K37)
    have fc53 := (pr36.keep K37 (ninS pr65 nin0))
    have fc54 := (pr37.keep K37 (ninS pr65 nin0))
    have fc55 := (pr48.keep K37 (ninS pr66 nin0))
    have fc56 := (pr49.keep K37)
    have fc57 := (pr51.keep K37 (ninS pr66 nin0))
    have fc58 := (pr52.keep K37 (ninS pr66 nin0))
    have fc59 := (pr53.keep K37)
    obtain ⟨_, _, _, _, XX39, hk39, hN39, sg39⟩ := sg136_3 l Z a0 hw p1 p2 q3 q4 p5 q6 q7 p8 p9 p10 a11 a12 a13 a15 a16 k17 a18 q38 q20 k21 a22 k23 a24 q25 q26 k27 a28 k29 w30 o1 a32 a33 w34 k35 T37.heap n0 OL37 u37_4 fc40 u37_3 fc41 fc42 fc43 fc44 fc45 fc46 fc47 fc48 fc49 pr64 pr14 pr15 pr16 pr17 pr18 fc50 u37_0 pr21 pr22 pr23 u37_1 u37_2 pr26 pr27 pr28 pr29 pr30 pr31 pr32 fc51 fc52 pr35 fc53 fc54 pr38 pr39 pr40 pr41 pr42 pr43 pr44 pr45 pr46 pr47 fc55 fc56 pr50 fc57 fc58 fc59 pr54 pr55 pr56 pr57 pr58 pr59 pr60 pr61 pr62 ⟨hZ, hx, hy, hml, ho, hnm, hret, X37, rfl, N37⟩ (by show cells + 0 + 7 ≤ 80; omega) (by show slots + 0 + 34 ≤ 320; omega)
    refine ⟨_, _, _, _, XX39, hk39, hN39, fun fs hr => pre14 _ ?_⟩
    refine XS.ifNo X0.here hx rfl (hb hy at_128) rfl ((if0 _ _).trans (feq hf14).1) ?_
    refine xaload X0 hx hy at_131 rfl rfl ?_
    refine st37 _ ?_
    exact sg39 fs hr
theorem sg110_0 (l : Launch) (Z : State) (a0 : Array Value) (hw : HW a0 Z) (p1 p2 : Int32) (q3 q4 : Int64) (p5 : Int32) (q6 q7 : Int64) (p8 p9 p10 : Int32) (a11 a12 a13 a15 : Addr) (k16 : ClassId) (a17 : Addr) (p18 : Int32) (a19 w20 : Addr) (k21 : ClassId) (q27 : Int64) (w33 w34 w35 : Addr) (k36 : ClassId) (a37 : Addr) (k38 : ClassId) (a39 : Addr) (k40 : ClassId) (w42 : Addr) (h0 : Heap) (n0 : Nat) (OL0 : Old Z n0 h0) (pr1 : Fld Z h0 a13 s45 s48 "Z" vi0) (pr2 : Exa Z h0 a13 s45) (pr3 : Fld Z h0 a13 s45 "sets" s8 (.ref a15)) (pr4 : Asl Z h0 a15 k16 tV o12 p5 .null) (pr5 : n0 ≤ a15) (pr6 : Ovr Z k16 s43) (pr7 : Exa Z h0 a12 s43) (pr8 : a13 ≠ a15) (pr9 : n0 ≤ a13) (pr10 : Fld Z h0 a13 s45 s11 s5 (.ref a17)) (pr11 : Fld Z h0 a13 s45 s15 "Z" (.int p18)) (pr12 : Fld Z h0 a13 s45 s16 s5 (.ref a19)) (pr13 : a15 ≠ a13) (pr14 : Fld Z h0 a19 s26 s36 "I" vi0) (pr15 : Exa Z h0 a19 s27) (pr16 : n0 ≤ a19) (pr17 : Fld Z h0 a19 s27 s12 s7 (.ref w20)) (pr18 : Fld Z h0 a19 s27 "size" "I" vi0) (pr19 : Arv Z Z.heap w20 k21 (.object s20) o0 [] .null) (pr20 : Sta Z Z.heap s27 s1 s7 (.ref w20)) (pr21 : a13 ≠ a19) (pr22 : a15 ≠ a19) (pr23 : Fld Z h0 a17 s26 s36 "I" vi0) (pr24 : Exa Z h0 a17 s27) (pr25 : n0 ≤ a17) (pr26 : Fld Z h0 a17 s27 s12 s7 (.ref w20)) (pr27 : Fld Z h0 a17 s27 "size" "I" vi0) (pr28 : a13 ≠ a17) (pr29 : a15 ≠ a17) (pr30 : a19 ≠ a17) (pr31 : a19 ≠ a13) (pr32 : a17 ≠ a13) (pr33 : Sta Z Z.heap s45 s2 s5 (.ref w33)) (pr34 : Fld Z Z.heap w33 s29 s13 s7 (.ref w34)) (pr35 : Asl Z Z.heap w34 k36 (.object s20) o12 p5 (.ref w35)) (pr36 : Exa Z Z.heap w33 s29) (pr37 : Exa Z Z.heap w35 s42) (pr38 : Fld Z Z.heap w35 s42 "low" "J" lj0) (pr39 : Fld Z Z.heap w35 s42 "high" "J" (.long q27)) (pr40 : ¬ (q27 < oj0)) (pr41 : ¬ ((281474976710656 : Int64) < q27)) (pr42 : Fld Z h0 a12 s43 "lows" "[J" (.ref a37)) (pr43 : Arv Z h0 a37 k38 .long o1 [(.long q6)] lj0) (pr44 : Fld Z h0 a12 s43 "highs" "[J" (.ref a39)) (pr45 : Arv Z h0 a39 k40 .long o1 [(.long q7)] lj0) (pr46 : ¬ (q6 < oj0)) (pr47 : ¬ (q7 < q6)) (pr48 : a12 ≠ a15) (pr49 : a12 ≠ a13) (pr50 : a37 ≠ a15) (pr51 : a37 ≠ a13) (pr52 : a39 ≠ a15) (pr53 : a39 ≠ a13) (pr54 : Sta Z Z.heap s32 "EMPTY" s6 (.ref w42)) (pr55 : Fld Z Z.heap w42 s32 "value" s3 .null) (pr56 : Exa Z Z.heap w42 s32) (pr57 : a19 ≠ a15) (pr58 : a12 ≠ a19) (pr59 : a37 ≠ a19) (pr60 : a39 ≠ a19) (pr61 : a17 ≠ a15) (pr62 : a12 ≠ a17) (pr63 : a37 ≠ a17) (pr64 : a39 ≠ a17) (pr65 : ¬ ((281474976710656 : Int64) < q7))
    (st0 : ST Z p l e s m args below meth c T0 locs cells slots h0 n0) (hcl : cells + 18 ≤ 80) (hsl : slots + 54 ≤ 320) : SG p l e s m args below meth c T0 n0 110 (LV p1 p2 q3 q4 p5 q6 q7 p8 p9 p10 a11 a12 a13 uu uu uu) := by
  obtain ⟨hZ, hx, hy, hml, ho, hnm, hret, X0, e0, N0⟩ := st0
  have pre0 : ∀ t, SS p e below T0 m 110 (LV p1 p2 q3 q4 p5 q6 q7 p8 p9 p10 a11 a12 a13 uu uu uu) [] t → SS p e below T0 m 110 (LV p1 p2 q3 q4 p5 q6 q7 p8 p9 p10 a11 a12 a13 uu uu uu) [] t := fun _ k => k
  have pre14 : ∀ t, SS p e below T0 m 113 (LV p1 p2 q3 q4 p5 q6 q7 p8 p9 p10 a11 a12 a13 uu uu uu) [(.int (p1 &&& o2))] t → SS p e below T0 m 110 (LV p1 p2 q3 q4 p5 q6 q7 p8 p9 p10 a11 a12 a13 uu uu uu) [] t := by
    intro t kt
    refine pre0 _ ?_
    refine xiloadN X0 hx hy at_110 rfl ?_
    refine XS.iconst X0.here hx rfl (hb hy at_111) ?_
    refine XS.iand X0.here hx rfl (hb hy at_112) rfl ?_
    exact kt
  by_cases hf14 : (p1 &&& o2) = o0
  · obtain ⟨_, _, _, _, XX22, hk22, hN22, sg22⟩ := sg125_0 l Z a0 hw p1 p2 q3 q4 p5 q6 q7 p8 p9 p10 a11 a12 a13 a15 k16 a17 p18 a19 w20 k21 h0 n0 OL0 pr1 pr2 pr3 pr4 pr5 pr6 pr7 pr8 pr9 pr10 pr11 pr12 pr13 pr14 pr15 pr16 pr17 pr18 pr19 pr20 pr21 pr22 pr23 pr24 pr25 pr26 pr27 pr28 pr29 pr30 pr31 pr32 ⟨hZ, hx, hy, hml, ho, hnm, hret, X0, e0, N0⟩ (by show cells + 3 ≤ 80; omega) (by show slots + 23 ≤ 320; omega)
    refine ⟨_, _, _, _, XX22, hk22, hN22, fun fs hr => pre14 _ ?_⟩
    refine XS.ifYes X0.here hx rfl (pc0 := 113) (pc' := 125) rfl (hb hy at_113) rfl ((if0 _ _).trans (teq hf14).1) (by decide) (by decide) ?_
    exact sg22 fs hr
  · have pre32 : ∀ t, SS p e below T0 m 122 (LV p1 p2 q3 q4 p5 q6 q7 p8 p9 p10 a11 a12 a13 uu uu uu) [(.ref a12), (.int p5), (.ref a13)] t → SS p e below T0 m 110 (LV p1 p2 q3 q4 p5 q6 q7 p8 p9 p10 a11 a12 a13 uu uu uu) [] t := by
      intro t kt
      refine pre14 _ ?_
      refine XS.ifNo X0.here hx rfl (hb hy at_113) rfl ((if0 _ _).trans (feq hf14).1) ?_
      refine xaload X0 hx hy at_116 rfl rfl ?_
      refine xiload X0 hx hy at_118 rfl ?_
      refine xaload X0 hx hy at_120 rfl rfl ?_
      exact kt
    by_cases hf32 : q27 < q6
    · obtain ⟨_, T41, L41, X41, hQ41, st41⟩ := own_cV X0 hx hZ ho hml (cw40 hw) (rm14_0 l Z a0 hw a13 p5 a12 w33 w34 w35 k36 q27 a37 q6 k38 a39 q7 k40 p18 a15 k16 a17 a19 o0 h0 n0 OL0 pr33 pr34 pr35 pr36 pr37 pr38 pr39 pr40 pr41 pr42 pr43 pr44 pr45 (own_p13 pr46 pr47) hf32 pr11 pr2 pr9 pr3 pr4 pr13 pr5 pr6 pr10 pr8 pr12 pr1) e0 pr2 122 (LV p1 p2 q3 q4 p5 q6 q7 p8 p9 p10 a11 a12 a13 uu uu uu) [(.int p5), (.ref a12)] [] 0 rfl (hb hy at_122) ⟨by decide, by decide, by show cells + 11 ≤ 80; omega, by show slots + 18 ≤ 320; omega⟩
      obtain ⟨b41_0, b41_1, b41_2, kx41_0, kx41_1, rfl, Nq41, K41, u41_0, u41_1, u41_2, u41_3, u41_4, u41_5, u41_6, u41_7, u41_8, u41_9, u41_10, u41_11, u41_12, u41_13, u41_14, u41_15, u41_16, u41_17, u41_18⟩ := hQ41
      have OL41 := OL0.keep K41 (allS pr9 (allS pr5 all0))
      have sz_b41_0 : h0.size ≤ b41_0 := Nat.le_trans (Keep.refl h0 [a15, a13]).1 u41_0
      have sz_b41_1 : h0.size ≤ b41_1 := Nat.le_trans (Keep.refl h0 [a15, a13]).1 u41_1
      have sz_b41_2 : h0.size ≤ b41_2 := Nat.le_trans (Keep.refl h0 [a15, a13]).1 u41_2
      have N41 := Fr.app N0 Nq41
      have fc44 := (pr2.keep K41)
      have fc45 := (pr42.keep K41 (ninS pr49 (ninS pr48 nin0)))
      have fc46 := (pr43.keep K41 (ninS pr51 (ninS pr50 nin0)))
      have fc47 := (pr44.keep K41 (ninS pr49 (ninS pr48 nin0)))
      have fc48 := (pr45.keep K41 (ninS pr53 (ninS pr52 nin0)))
      have nz49 := nl pr3.lt sz_b41_0
      have nz50 := nl pr3.lt sz_b41_1
      have nz51 := nl pr3.lt sz_b41_2
      have fc52 := (pr14.keep K41 (ninS pr31 (ninS pr57 nin0)))
      have fc53 := (pr15.keep K41)
      have fc54 := (pr17.keep K41 (ninS pr31 (ninS pr57 nin0)))
      have fc55 := (pr18.keep K41 (ninS pr31 (ninS pr57 nin0)))
      have nz56 := nl pr18.lt sz_b41_0
      have nz57 := nl pr18.lt sz_b41_1
      have nz58 := nl pr18.lt sz_b41_2
      have fc59 := (pr23.keep K41 (ninS pr32 (ninS pr61 nin0)))
      have fc60 := (pr24.keep K41)
      have fc61 := (pr26.keep K41 (ninS pr32 (ninS pr61 nin0)))
      have fc62 := (pr27.keep K41 (ninS pr32 (ninS pr61 nin0)))
      have fc63 := (pr7.keep K41)
      have nz64 := nl pr27.lt sz_b41_0
      have nz65 := nl pr27.lt sz_b41_1
      have nz66 := nl pr27.lt sz_b41_2
      obtain ⟨_, _, _, _, XX43, hk43, hN43, sg43⟩ := sg125_1 l Z a0 hw p1 p2 q3 q4 p5 q6 q7 p8 p9 p10 a11 a12 a13 a15 b41_0 k16 b41_1 oj0 kx41_0 a37 k38 b41_2 q27 kx41_1 a39 k40 w42 (nar .boolean (p18 ||| o0)) a17 a19 w20 k21 oj0 T41.heap n0 OL41 u41_10 fc44 u41_7 u41_11 u41_13 u41_15 fc45 fc46 u41_14 u41_17 fc47 fc48 (own_p4 _ _ hf32) (own_p8 hf32 pr47) pr54 u41_12 u41_6 pr55 pr56 pr9 u41_8 u41_9 pr13 (Ne.symm nz49) (Ne.symm nz50) pr49 pr51 (Ne.symm nz51) pr53 fc52 fc53 pr16 fc54 fc55 pr19 pr20 pr21 pr22 (Ne.symm nz56) (Ne.symm nz57) pr58 pr59 (Ne.symm nz58) pr60 fc59 fc60 pr25 fc61 fc62 fc63 pr28 pr29 (Ne.symm nz64) (Ne.symm nz65) pr62 pr63 (Ne.symm nz66) pr64 pr30 u41_15 (own_p4 _ _ hf32) pr31 pr32 ⟨hZ, hx, hy, hml, ho, hnm, hret, X41, rfl, N41⟩ (by show cells + 11 + 7 ≤ 80; omega) (by show slots + 18 + 32 ≤ 320; omega)
      refine ⟨_, _, _, _, XX43, hk43, hN43, fun fs hr => pre32 _ ?_⟩
      refine st41 _ ?_
      exact sg43 fs hr
    · by_cases hf67 : (q6 - (1 : Int64)) < oj0
      · by_cases hf68 : q27 < (q7 + (1 : Int64))
        · obtain ⟨_, T69, L69, X69, hQ69, st69⟩ := own_cV X0 hx hZ ho hml (cw40 hw) (rm14_1 l Z a0 hw a13 p5 a12 w33 w34 w35 k36 q27 a37 q6 k38 a39 q7 k40 w42 p18 a17 a19 a15 o0 h0 n0 OL0 pr33 pr34 pr35 pr36 pr37 pr38 pr39 pr40 pr41 pr42 pr43 pr44 pr45 (own_p13 pr46 pr47) hf32 hf67 hf68 pr54 pr11 pr55 pr56 pr2 pr9 pr10 pr12 pr3 pr1) e0 pr2 122 (LV p1 p2 q3 q4 p5 q6 q7 p8 p9 p10 a11 a12 a13 uu uu uu) [(.int p5), (.ref a12)] [] 0 rfl (hb hy at_122) ⟨by decide, by decide, by show cells + 7 ≤ 80; omega, by show slots + 13 ≤ 320; omega⟩
          obtain ⟨rfl, Nq69, K69, u69_0, u69_1, u69_2, u69_3, u69_4⟩ := hQ69
          have OL69 := OL0.keep K69 (allS pr9 all0)
          have N69 := Fr.app N0 Nq69
          have fc71 := (pr2.keep K69)
          have fc72 := (pr4.keep K69 (ninS pr13 nin0))
          have fc73 := (pr7.keep K69)
          have fc74 := (pr14.keep K69 (ninS pr31 nin0))
          have fc75 := (pr15.keep K69)
          have fc76 := (pr17.keep K69 (ninS pr31 nin0))
          have fc77 := (pr18.keep K69 (ninS pr31 nin0))
          have fc78 := (pr23.keep K69 (ninS pr32 nin0))
          have fc79 := (pr24.keep K69)
          have fc80 := (pr26.keep K69 (ninS pr32 nin0))
          have fc81 := (pr27.keep K69 (ninS pr32 nin0))
          obtain ⟨_, _, _, _, XX70, hk70, hN70, sg70⟩ := sg125_0 l Z a0 hw p1 p2 q3 q4 p5 q6 q7 p8 p9 p10 a11 a12 a13 a15 k16 a17 (nar .boolean (p18 ||| o1)) a19 w20 k21 T69.heap n0 OL69 u69_4 fc71 u69_3 fc72 pr5 pr6 fc73 pr8 pr9 u69_1 u69_0 u69_2 pr13 fc74 fc75 pr16 fc76 fc77 pr19 pr20 pr21 pr22 fc78 fc79 pr25 fc80 fc81 pr28 pr29 pr30 pr31 pr32 ⟨hZ, hx, hy, hml, ho, hnm, hret, X69, rfl, N69⟩ (by show cells + 7 + 3 ≤ 80; omega) (by show slots + 13 + 23 ≤ 320; omega)
          refine ⟨_, _, _, _, XX70, hk70, hN70, fun fs hr => pre32 _ ?_⟩
          refine st69 _ ?_
          exact sg70 fs hr
        · obtain ⟨_, T82, L82, X82, hQ82, st82⟩ := own_cV X0 hx hZ ho hml (cw40 hw) (rm14_2 l Z a0 hw a13 p5 a12 w33 w34 w35 k36 q27 a37 q6 k38 a39 q7 k40 p18 a15 k16 a17 a19 o0 h0 n0 OL0 pr33 pr34 pr35 pr36 pr37 pr38 pr39 pr40 pr41 pr42 pr43 pr44 pr45 (own_p13 pr46 pr47) hf32 hf67 hf68 pr11 pr2 pr9 pr3 pr4 pr13 pr5 pr6 pr10 pr8 pr12 pr1) e0 pr2 122 (LV p1 p2 q3 q4 p5 q6 q7 p8 p9 p10 a11 a12 a13 uu uu uu) [(.int p5), (.ref a12)] [] 0 rfl (hb hy at_122) ⟨by decide, by decide, by show cells + 11 ≤ 80; omega, by show slots + 18 ≤ 320; omega⟩
          obtain ⟨b82_0, b82_1, b82_2, kx82_0, kx82_1, rfl, Nq82, K82, u82_0, u82_1, u82_2, u82_3, u82_4, u82_5, u82_6, u82_7, u82_8, u82_9, u82_10, u82_11, u82_12, u82_13, u82_14, u82_15, u82_16, u82_17, u82_18⟩ := hQ82
          have OL82 := OL0.keep K82 (allS pr9 (allS pr5 all0))
          have sz_b82_0 : h0.size ≤ b82_0 := Nat.le_trans (Keep.refl h0 [a15, a13]).1 u82_0
          have sz_b82_1 : h0.size ≤ b82_1 := Nat.le_trans (Keep.refl h0 [a15, a13]).1 u82_1
          have sz_b82_2 : h0.size ≤ b82_2 := Nat.le_trans (Keep.refl h0 [a15, a13]).1 u82_2
          have N82 := Fr.app N0 Nq82
          have fc84 := (pr2.keep K82)
          have fc85 := (pr42.keep K82 (ninS pr49 (ninS pr48 nin0)))
          have fc86 := (pr43.keep K82 (ninS pr51 (ninS pr50 nin0)))
          have fc87 := (pr44.keep K82 (ninS pr49 (ninS pr48 nin0)))
          have fc88 := (pr45.keep K82 (ninS pr53 (ninS pr52 nin0)))
          have nz89 := nl pr3.lt sz_b82_0
          have nz90 := nl pr3.lt sz_b82_1
          have nz91 := nl pr3.lt sz_b82_2
          have fc92 := (pr14.keep K82 (ninS pr31 (ninS pr57 nin0)))
          have fc93 := (pr15.keep K82)
          have fc94 := (pr17.keep K82 (ninS pr31 (ninS pr57 nin0)))
          have fc95 := (pr18.keep K82 (ninS pr31 (ninS pr57 nin0)))
          have nz96 := nl pr18.lt sz_b82_0
          have nz97 := nl pr18.lt sz_b82_1
          have nz98 := nl pr18.lt sz_b82_2
          have fc99 := (pr23.keep K82 (ninS pr32 (ninS pr61 nin0)))
          have fc100 := (pr24.keep K82)
          have fc101 := (pr26.keep K82 (ninS pr32 (ninS pr61 nin0)))
          have fc102 := (pr27.keep K82 (ninS pr32 (ninS pr61 nin0)))
          have fc103 := (pr7.keep K82)
          have nz104 := nl pr27.lt sz_b82_0
          have nz105 := nl pr27.lt sz_b82_1
          have nz106 := nl pr27.lt sz_b82_2
          obtain ⟨_, _, _, _, XX83, hk83, hN83, sg83⟩ := sg125_2 l Z a0 hw p1 p2 q3 q4 p5 q6 q7 p8 p9 p10 a11 a12 a13 a15 b82_0 k16 b82_1 (q7 + (1 : Int64)) kx82_0 a37 k38 b82_2 q27 kx82_1 a39 k40 w42 (nar .boolean (p18 ||| o0)) a17 a19 w20 k21 T82.heap n0 OL82 u82_10 fc84 u82_7 u82_11 u82_13 u82_15 fc85 fc86 u82_14 u82_17 fc87 fc88 (own_p3 _ _ pr65) pr65 (own_p11 pr65 hf68) pr54 u82_12 u82_6 pr55 pr56 pr9 u82_8 u82_9 pr13 (Ne.symm nz89) (Ne.symm nz90) pr49 pr51 (Ne.symm nz91) pr53 fc92 fc93 pr16 fc94 fc95 pr19 pr20 pr21 pr22 (Ne.symm nz96) (Ne.symm nz97) pr58 pr59 (Ne.symm nz98) pr60 fc99 fc100 pr25 fc101 fc102 fc103 pr28 pr29 (Ne.symm nz104) (Ne.symm nz105) pr62 pr63 (Ne.symm nz106) pr64 pr30 pr31 pr32 ⟨hZ, hx, hy, hml, ho, hnm, hret, X82, rfl, N82⟩ (by show cells + 11 + 7 ≤ 80; omega) (by show slots + 18 + 32 ≤ 320; omega)
          refine ⟨_, _, _, _, XX83, hk83, hN83, fun fs hr => pre32 _ ?_⟩
          refine st82 _ ?_
          exact sg83 fs hr
      · by_cases hf107 : q27 < (q7 + (1 : Int64))
        · obtain ⟨_, T108, L108, X108, hQ108, st108⟩ := own_cV X0 hx hZ ho hml (cw40 hw) (rm14_3 l Z a0 hw a13 p5 a12 w33 w34 w35 k36 q27 a37 q6 k38 a39 q7 k40 p18 a15 k16 a17 a19 o0 h0 n0 OL0 pr33 pr34 pr35 pr36 pr37 pr38 pr39 pr40 pr41 pr42 pr43 pr44 pr45 (own_p13 pr46 pr47) hf32 hf67 hf107 pr11 pr2 pr9 pr3 pr4 pr13 pr5 pr6 pr10 pr8 pr12 pr1) e0 pr2 122 (LV p1 p2 q3 q4 p5 q6 q7 p8 p9 p10 a11 a12 a13 uu uu uu) [(.int p5), (.ref a12)] [] 0 rfl (hb hy at_122) ⟨by decide, by decide, by show cells + 11 ≤ 80; omega, by show slots + 18 ≤ 320; omega⟩
          obtain ⟨b108_0, b108_1, b108_2, kx108_0, kx108_1, rfl, Nq108, K108, u108_0, u108_1, u108_2, u108_3, u108_4, u108_5, u108_6, u108_7, u108_8, u108_9, u108_10, u108_11, u108_12, u108_13, u108_14, u108_15, u108_16, u108_17, u108_18⟩ := hQ108
          have OL108 := OL0.keep K108 (allS pr9 (allS pr5 all0))
          have sz_b108_0 : h0.size ≤ b108_0 := Nat.le_trans (Keep.refl h0 [a15, a13]).1 u108_0
          have sz_b108_1 : h0.size ≤ b108_1 := Nat.le_trans (Keep.refl h0 [a15, a13]).1 u108_1
          have sz_b108_2 : h0.size ≤ b108_2 := Nat.le_trans (Keep.refl h0 [a15, a13]).1 u108_2
          have N108 := Fr.app N0 Nq108
          have fc110 := (pr2.keep K108)
          have fc111 := (pr42.keep K108 (ninS pr49 (ninS pr48 nin0)))
          have fc112 := (pr43.keep K108 (ninS pr51 (ninS pr50 nin0)))
          have fc113 := (pr44.keep K108 (ninS pr49 (ninS pr48 nin0)))
          have fc114 := (pr45.keep K108 (ninS pr53 (ninS pr52 nin0)))
          have nz115 := nl pr3.lt sz_b108_0
          have nz116 := nl pr3.lt sz_b108_1
          have nz117 := nl pr3.lt sz_b108_2
          have fc118 := (pr14.keep K108 (ninS pr31 (ninS pr57 nin0)))
          have fc119 := (pr15.keep K108)
          have fc120 := (pr17.keep K108 (ninS pr31 (ninS pr57 nin0)))
          have fc121 := (pr18.keep K108 (ninS pr31 (ninS pr57 nin0)))
          have nz122 := nl pr18.lt sz_b108_0
          have nz123 := nl pr18.lt sz_b108_1
          have nz124 := nl pr18.lt sz_b108_2
          have fc125 := (pr23.keep K108 (ninS pr32 (ninS pr61 nin0)))
          have fc126 := (pr24.keep K108)
          have fc127 := (pr26.keep K108 (ninS pr32 (ninS pr61 nin0)))
          have fc128 := (pr27.keep K108 (ninS pr32 (ninS pr61 nin0)))
          have fc129 := (pr7.keep K108)
          have nz130 := nl pr27.lt sz_b108_0
          have nz131 := nl pr27.lt sz_b108_1
          have nz132 := nl pr27.lt sz_b108_2
          obtain ⟨_, _, _, _, XX109, hk109, hN109, sg109⟩ := sg125_1 l Z a0 hw p1 p2 q3 q4 p5 q6 q7 p8 p9 p10 a11 a12 a13 a15 b108_0 k16 b108_1 oj0 kx108_0 a37 k38 b108_2 (q6 - (1 : Int64)) kx108_1 a39 k40 w42 (nar .boolean (p18 ||| o0)) a17 a19 w20 k21 oj0 T108.heap n0 OL108 u108_10 fc110 u108_7 u108_11 u108_13 u108_15 fc111 fc112 u108_14 u108_17 fc113 fc114 (own_p2 _ pr46) (own_p1 pr46 pr47) pr54 u108_12 u108_6 pr55 pr56 pr9 u108_8 u108_9 pr13 (Ne.symm nz115) (Ne.symm nz116) pr49 pr51 (Ne.symm nz117) pr53 fc118 fc119 pr16 fc120 fc121 pr19 pr20 pr21 pr22 (Ne.symm nz122) (Ne.symm nz123) pr58 pr59 (Ne.symm nz124) pr60 fc125 fc126 pr25 fc127 fc128 fc129 pr28 pr29 (Ne.symm nz130) (Ne.symm nz131) pr62 pr63 (Ne.symm nz132) pr64 pr30 u108_15 (own_p2 _ pr46) pr31 pr32 ⟨hZ, hx, hy, hml, ho, hnm, hret, X108, rfl, N108⟩ (by show cells + 11 + 7 ≤ 80; omega) (by show slots + 18 + 32 ≤ 320; omega)
          refine ⟨_, _, _, _, XX109, hk109, hN109, fun fs hr => pre32 _ ?_⟩
          refine st108 _ ?_
          exact sg109 fs hr
        · obtain ⟨_, T133, L133, X133, hQ133, st133⟩ := own_cV X0 hx hZ ho hml (cw40 hw) (rm14_4 l Z a0 hw a13 p5 a12 w33 w34 w35 k36 q27 a37 q6 k38 a39 q7 k40 p18 a15 k16 a17 a19 o0 h0 n0 OL0 pr33 pr34 pr35 pr36 pr37 pr38 pr39 pr40 pr41 pr42 pr43 pr44 pr45 (own_p13 pr46 pr47) hf32 hf67 hf107 pr11 pr2 pr9 pr3 pr4 pr13 pr5 pr6 pr10 pr8 pr12 pr1) e0 pr2 122 (LV p1 p2 q3 q4 p5 q6 q7 p8 p9 p10 a11 a12 a13 uu uu uu) [(.int p5), (.ref a12)] [] 0 rfl (hb hy at_122) ⟨by decide, by decide, by show cells + 11 ≤ 80; omega, by show slots + 20 ≤ 320; omega⟩
          obtain ⟨b133_0, b133_1, b133_2, kx133_0, kx133_1, rfl, Nq133, K133, u133_0, u133_1, u133_2, u133_3, u133_4, u133_5, u133_6, u133_7, u133_8, u133_9, u133_10, u133_11, u133_12, u133_13, u133_14, u133_15, u133_16, u133_17, u133_18⟩ := hQ133
          have OL133 := OL0.keep K133 (allS pr9 (allS pr5 all0))
          have sz_b133_0 : h0.size ≤ b133_0 := Nat.le_trans (Keep.refl h0 [a15, a13]).1 u133_0
          have sz_b133_1 : h0.size ≤ b133_1 := Nat.le_trans (Keep.refl h0 [a15, a13]).1 u133_1
          have sz_b133_2 : h0.size ≤ b133_2 := Nat.le_trans (Keep.refl h0 [a15, a13]).1 u133_2
          have N133 := Fr.app N0 Nq133
          have fc135 := (pr2.keep K133)
          have fc136 := (pr42.keep K133 (ninS pr49 (ninS pr48 nin0)))
          have fc137 := (pr43.keep K133 (ninS pr51 (ninS pr50 nin0)))
          have fc138 := (pr44.keep K133 (ninS pr49 (ninS pr48 nin0)))
          have fc139 := (pr45.keep K133 (ninS pr53 (ninS pr52 nin0)))
          have nz140 := nl pr3.lt sz_b133_0
          have nz141 := nl pr3.lt sz_b133_1
          have nz142 := nl pr3.lt sz_b133_2
          have fc143 := (pr14.keep K133 (ninS pr31 (ninS pr57 nin0)))
          have fc144 := (pr15.keep K133)
          have fc145 := (pr17.keep K133 (ninS pr31 (ninS pr57 nin0)))
          have fc146 := (pr18.keep K133 (ninS pr31 (ninS pr57 nin0)))
          have nz147 := nl pr18.lt sz_b133_0
          have nz148 := nl pr18.lt sz_b133_1
          have nz149 := nl pr18.lt sz_b133_2
          have fc150 := (pr23.keep K133 (ninS pr32 (ninS pr61 nin0)))
          have fc151 := (pr24.keep K133)
          have fc152 := (pr26.keep K133 (ninS pr32 (ninS pr61 nin0)))
          have fc153 := (pr27.keep K133 (ninS pr32 (ninS pr61 nin0)))
          have fc154 := (pr7.keep K133)
          have nz155 := nl pr27.lt sz_b133_0
          have nz156 := nl pr27.lt sz_b133_1
          have nz157 := nl pr27.lt sz_b133_2
          obtain ⟨_, _, _, _, XX134, hk134, hN134, sg134⟩ := sg125_3 l Z a0 hw p1 p2 q3 q4 p5 q6 q7 p8 p9 p10 a11 a12 a13 a15 b133_0 k16 b133_1 oj0 (q7 + (1 : Int64)) kx133_0 a37 k38 b133_2 (q6 - (1 : Int64)) q27 kx133_1 a39 k40 w42 (nar .boolean (p18 ||| o0)) a17 a19 w20 k21 oj0 T133.heap n0 OL133 u133_10 fc135 u133_7 u133_11 u133_13 u133_15 fc136 fc137 u133_14 u133_17 fc138 fc139 (own_p2 _ pr46) (own_p1 pr46 pr47) (own_p3 _ _ pr65) pr65 (own_p11 pr65 hf107) pr54 u133_12 u133_6 pr55 pr56 pr9 u133_8 u133_9 pr13 (Ne.symm nz140) (Ne.symm nz141) pr49 pr51 (Ne.symm nz142) pr53 fc143 fc144 pr16 fc145 fc146 pr19 pr20 pr21 pr22 (Ne.symm nz147) (Ne.symm nz148) pr58 pr59 (Ne.symm nz149) pr60 fc150 fc151 pr25 fc152 fc153 fc154 pr28 pr29 (Ne.symm nz155) (Ne.symm nz156) pr62 pr63 (Ne.symm nz157) pr64 pr30 u133_15 (own_p2 _ pr46) pr31 pr32 ⟨hZ, hx, hy, hml, ho, hnm, hret, X133, rfl, N133⟩ (by show cells + 11 + 7 ≤ 80; omega) (by show slots + 20 + 34 ≤ 320; omega)
          refine ⟨_, _, _, _, XX134, hk134, hN134, fun fs hr => pre32 _ ?_⟩
          refine st133 _ ?_
          exact sg134 fs hr
theorem rm36_3 (l : Launch) (Z : State) (a0 : Array Value) (hw : HW a0 Z) (a1 a3 : Addr) (q6 : Int64) (k7 : ClassId) (a26 : Addr) (q29 : Int64) (k30 : ClassId) (h0 : Heap) (n0 : Nat) (OL0 : Old Z n0 h0) (pr1 : Fld Z h0 a1 s43 "lows" "[J" (.ref a3)) (pr2 : Arv Z h0 a3 k7 .long o1 [(.long q6)] lj0) (pr3 : Fld Z h0 a1 s43 "highs" "[J" (.ref a26)) (pr4 : Arv Z h0 a26 k30 .long o1 [(.long q29)] lj0) (pr5 : ¬ ((own_jmin q29 q29) < (own_jmax q6 q6))) (pr6 : ¬ (q29 < q29)) :
    MF l Z mn36 prog_63_method_4_code 5 (some (.object s32)) ⟨4, 7, 12, 50⟩ #[(.ref a1), (.ref a1)] h0 (fun v h L => ∃ b59_0 b59_1 b59_2 b59_3 : Addr, ∃ kx59_0 : ClassId, ∃ kx59_1 : ClassId, v = some (.ref b59_0) ∧ Fr n0 L ∧ Keep h0 h [] ∧ h0.size ≤ b59_0 ∧ h0.size ≤ b59_1 ∧ h0.size ≤ b59_2 ∧ h0.size ≤ b59_3 ∧ b59_0 ≠ b59_1 ∧ b59_0 ≠ b59_2 ∧ b59_0 ≠ b59_3 ∧ b59_1 ≠ b59_2 ∧ b59_1 ≠ b59_3 ∧ b59_2 ≠ b59_3 ∧ Exa Z h b59_0 s32 ∧ Fld Z h b59_0 s32 "value" s3 (.ref b59_1) ∧ Exa Z h b59_1 s43 ∧ Fld Z h b59_1 s43 "lows" "[J" (.ref b59_2) ∧ Fld Z h b59_1 s43 "highs" "[J" (.ref b59_3) ∧ Arv Z h b59_2 kx59_0 .long o1 [(.long (own_jmax q6 q6))] lj0 ∧ Exa Z h b59_2 "[J" ∧ Arv Z h b59_3 kx59_1 .long o1 [(.long (own_jmin q29 q29))] lj0 ∧ Exa Z h b59_3 "[J") := by
  refine own_start (plainFor_of_name pn_2) (fun m => (ef_36_43 m a1 a1)) ?_
  intro p e s m below meth c s₁ hZ hx hy hml ho hnm hret X0 e0
  have N0 := Fr.nil n0
  obtain ⟨T2, h2, X2, e2, E2, A2, D2, -, st2⟩ := newO X0 hx hZ ho (wd136 hw) (wd137 hw) (wd138 hw) e0 (g := (mkF m 0 #[rv a1, rv a1, uu, uu, uu] [])) rfl (hb hy d36_0) (by decide) (by decide)
  obtain ⟨b2, g2⟩ : ∃ z, z = h0.size := ⟨_, rfl⟩
  rw [← g2] at A2 D2 st2
  have g_b2 : n0 ≤ b2 := (Nat.le_trans (Nat.le_trans (Nat.le_of_eq OL0.1.symm) OL0.2.1) (Nat.le_of_eq g2.symm))
  have sz_b2 : h0.size ≤ b2 := (Nat.le_trans (Keep.refl h0 []).1 (Nat.le_of_eq g2.symm))
  have KK2 : Keep h0 h2 [] := (Keep.refl h0 []).ext E2
  have OL2 := OL0.ext E2
  have F_lows_b2 : Fld Z h2 b2 s44 "lows" "[J" .null := D2 (Or.inr (wd144 hw)) (ty := (.array .long)) (by decide)
  have F_highs_b2 : Fld Z h2 b2 s44 "highs" "[J" .null := D2 (Or.inr (wd146 hw)) (ty := (.array .long)) (by decide)
  have F_count_b2 : Fld Z h2 b2 s44 "count" "I" vi0 := D2 (Or.inl (wd153 hw)) (ty := .int) (by decide)
  have fc4 := (pr1.ext E2)
  obtain ⟨T5, X5, e5, st5⟩ := gF X2 hx hZ ho (wd41 hw) Via.refl e2 fc4 5 #[rv a1, rv a1, uu, uu, uu] [(.ref b2), (.ref b2)] (hb hy d36_5)
  have fc8 := (pr2.ext E2)
  obtain ⟨cl9, Ar9, -, Sz9, Nn9, -, -⟩ := id fc8
  obtain ⟨T10, X10, e10, st10⟩ := gF X5 hx hZ ho (wd41 hw) Via.refl e5 fc4 10 #[rv a1, rv a1, uu, uu, uu] [vi1, (.ref b2), (.ref b2)] (hb hy d36_10)
  obtain ⟨cl11, Ar11, -, Sz11, Nn11, -, -⟩ := id fc8
  obtain ⟨_, T12, L12, X12, hQ12, st12⟩ := own_cN X10 hx hZ ho hml (cw27 hw) (rm18_0 l Z a0 hw b2 h2 n0 OL2 A2 F_lows_b2 g_b2 F_highs_b2 F_count_b2) e10 b2 15 #[rv a1, rv a1, uu, uu, uu] [(.int o2)] [(.ref b2)] 1 rfl (hb hy d36_15) (by decide)
  obtain ⟨b12_0, b12_1, kx12_0, kx12_1, rfl, Nq12, K12, u12_0, u12_1, u12_2, u12_3, u12_4, u12_5, u12_6, u12_7, u12_8, u12_9⟩ := hQ12
  have KK12 : Keep h0 T12.heap [] := KK2.trans K12 (allS (Or.inr sz_b2) all0)
  have OL12 := OL2.keep K12 (allS g_b2 all0)
  have g_b12_0 : n0 ≤ b12_0 := Nat.le_trans (Nat.le_trans (Nat.le_of_eq OL2.1.symm) OL2.2.1) u12_0
  have sz_b12_0 : h0.size ≤ b12_0 := Nat.le_trans KK2.1 u12_0
  have g_b12_1 : n0 ≤ b12_1 := Nat.le_trans (Nat.le_trans (Nat.le_of_eq OL2.1.symm) OL2.2.1) u12_1
  have sz_b12_1 : h0.size ≤ b12_1 := Nat.le_trans KK2.1 u12_1
  have N12 := Fr.app N0 Nq12
  have nz13 := nl pr1.lt sz_b2
  have fc14 := (fc4.keep K12 (ninS nz13 nin0))
  obtain ⟨T15, X15, e15, st15⟩ := gF X12 hx hZ ho (wd41 hw) Via.refl rfl fc14 26 #[rv a1, rv a1, rv b2, iv o0, iv o0] [vi0] (hb hy d36_26)
  have nz16 := nl pr2.lt sz_b2
  have fc17 := (fc8.keep K12 (ninS nz16 nin0))
  obtain ⟨cl18, Ar18, -, Sz18, Nn18, -, -⟩ := id fc17
  obtain ⟨T19, X19, e19, st19⟩ := gF X15 hx hZ ho (wd41 hw) Via.refl e15 fc14 36 #[rv a1, rv a1, rv b2, iv o0, iv o0] [vi0] (hb hy d36_36)
  obtain ⟨cl20, Ar20, -, Sz20, Nn20, -, -⟩ := id fc17
  obtain ⟨T21, X21, e21, st21⟩ := gF X19 hx hZ ho (wd41 hw) Via.refl e19 fc14 45 #[rv a1, rv a1, rv b2, iv o0, iv o0] [(.ref b2)] (hb hy d36_45)
  obtain ⟨T23, X23, e23, st23⟩ := gF X21 hx hZ ho (wd41 hw) Via.refl e21 fc14 51 #[rv a1, rv a1, rv b2, iv o0, iv o0] [(.long q6), (.ref b2)] (hb hy d36_51)
  obtain ⟨_, T25, L25, X25, hQ25, st25⟩ := own_cS X23 hx hZ ho hml (cw41 hw) (mg_own_jmax l Z a0 hw q6 q6 T12.heap n0 OL12 ) e23 57 #[rv a1, rv a1, rv b2, iv o0, iv o0] [(.long q6), (.long q6)] [(.ref b2)] 1 rfl (hb hy d36_57) (by decide)
  obtain ⟨rfl, Nq25, ec25⟩ := hQ25
  have N25 := Fr.app N12 Nq25
  have fc27 := ((pr3.ext E2).keep K12 (ninS nz13 nin0))
  obtain ⟨T28, X28, e28, st28⟩ := gF X25 hx hZ ho (wd43 hw) Via.refl ec25 fc27 61 #[rv a1, rv a1, rv b2, iv o0, iv o0] [(.long (own_jmax q6 q6)), (.ref b2)] (hb hy d36_61)
  have nz31 := nl pr4.lt sz_b2
  have fc32 := ((pr4.ext E2).keep K12 (ninS nz31 nin0))
  obtain ⟨T34, X34, e34, st34⟩ := gF X28 hx hZ ho (wd43 hw) Via.refl e28 fc27 67 #[rv a1, rv a1, rv b2, iv o0, iv o0] [(.long q29), (.long (own_jmax q6 q6)), (.ref b2)] (hb hy d36_67)
  obtain ⟨_, T36, L36, X36, hQ36, st36⟩ := own_cS X34 hx hZ ho hml (cw42 hw) (mg_own_jmin l Z a0 hw q29 q29 T12.heap n0 OL12 ) e34 73 #[rv a1, rv a1, rv b2, iv o0, iv o0] [(.long q29), (.long q29)] [(.long (own_jmax q6 q6)), (.ref b2)] 3 rfl (hb hy d36_73) (by decide)
  obtain ⟨rfl, Nq36, ec36⟩ := hQ36
  have N36 := Fr.app N25 Nq36
  have nz38 := nl F_lows_b2.lt u12_0
  have nz39 := nl F_lows_b2.lt u12_1
  have fc40 := (A2.keep K12)
  obtain ⟨_, T37, L37, X37, hQ37, st37⟩ := own_cV X36 hx hZ ho hml (cw28 hw) (rm19_0 l Z a0 hw b2 (own_jmax q6 q6) (own_jmin q29 q29) b12_0 oj0 oj0 kx12_0 b12_1 oj0 oj0 kx12_1 T12.heap n0 OL12 pr5 u12_3 u12_5 u12_6 g_b12_0 u12_4 nz38 u12_8 (Ne.symm u12_2) g_b12_1 nz39 fc40 g_b2 u12_2 (Ne.symm nz38) (Ne.symm nz39)) ec36 fc40 76 #[rv a1, rv a1, rv b2, iv o0, iv o0] [(.long (own_jmax q6 q6)), (.long (own_jmin q29 q29))] [] 0 rfl (hb hy d36_76) (by decide)
  obtain ⟨rfl, Nq37, K37, u37_0, u37_1, u37_2, u37_3, u37_4⟩ := hQ37
  have KK37 : Keep h0 T37.heap [] := KK12.trans K37 (allS (Or.inr sz_b12_0) (allS (Or.inr sz_b12_1) (allS (Or.inr sz_b2) all0)))
  have OL37 := OL12.keep K37 (allS g_b12_0 (allS g_b12_1 (allS g_b2 all0)))
  have N37 := Fr.app N36 Nq37
  have nz41 := nl pr3.lt sz_b12_1
  have nz42 := nl pr3.lt sz_b12_0
  have fc43 := (fc27.keep K37 (ninS nz42 (ninS nz41 (ninS nz13 nin0))))
  obtain ⟨T44, X44, e44, st44⟩ := gF X37 hx hZ ho (wd43 hw) Via.refl rfl fc43 80 #[rv a1, rv a1, rv b2, iv o0, iv o0] [] (hb hy d36_80)
  have nz45 := nl pr4.lt sz_b12_1
  have nz46 := nl pr4.lt sz_b12_0
  have fc47 := (fc32.keep K37 (ninS nz46 (ninS nz45 (ninS nz31 nin0))))
  obtain ⟨T49, X49, e49, st49⟩ := gF X44 hx hZ ho (wd43 hw) Via.refl e44 fc43 86 #[rv a1, rv a1, rv b2, iv o0, iv o0] [(.long q29)] (hb hy d36_86)
  have fc51 := (fc14.keep K37 (ninS nz42 (ninS nz41 (ninS nz13 nin0))))
  obtain ⟨T52, X52, e52, st52⟩ := gF X49 hx hZ ho (wd41 hw) Via.refl e49 fc51 26 #[rv a1, rv a1, rv b2, iv o0, iv o1] [vi0] (hb hy d36_26)
  have nz53 := nl pr2.lt sz_b12_1
  have nz54 := nl pr2.lt sz_b12_0
  have fc55 := (fc17.keep K37 (ninS nz54 (ninS nz53 (ninS nz16 nin0))))
  obtain ⟨cl56, Ar56, -, Sz56, Nn56, -, -⟩ := id fc55
  obtain ⟨T57, X57, e57, st57⟩ := gF X52 hx hZ ho (wd41 hw) Via.refl e52 fc51 36 #[rv a1, rv a1, rv b2, iv o0, iv o1] [vi1] (hb hy d36_36)
  obtain ⟨cl58, Ar58, -, Sz58, Nn58, -, -⟩ := id fc55
  have fc60 := (fc40.keep K37)
  obtain ⟨_, T59, L59, X59, hQ59, st59⟩ := own_cV X57 hx hZ ho hml (cw35 hw) (rm20_0 l Z a0 hw b2 b12_0 (own_jmax q6 q6) oj0 kx12_0 b12_1 (own_jmin q29 q29) oj0 kx12_1 T37.heap n0 OL37 u37_3 u37_2 u37_0 u37_4 u37_1) e57 fc60 109 #[rv a1, rv a1, rv b2, iv o0, iv o1] [] [] 0 rfl (hb hy d36_109) (by decide)
  obtain ⟨b59_0, b59_1, b59_2, b59_3, kx59_0, kx59_1, rfl, Nq59, K59, u59_0, u59_1, u59_2, u59_3, u59_4, u59_5, u59_6, u59_7, u59_8, u59_9, u59_10, u59_11, u59_12, u59_13, u59_14, u59_15, u59_16, u59_17, u59_18⟩ := hQ59
  have KK59 : Keep h0 T59.heap [] := KK37.trans K59 all0
  have sz_b59_0 : h0.size ≤ b59_0 := Nat.le_trans KK37.1 u59_0
  have sz_b59_1 : h0.size ≤ b59_1 := Nat.le_trans KK37.1 u59_1
  have sz_b59_2 : h0.size ≤ b59_2 := Nat.le_trans KK37.1 u59_2
  have sz_b59_3 : h0.size ≤ b59_3 := Nat.le_trans KK37.1 u59_3
  have N59 := Fr.app N37 Nq59
  refine ⟨some (.ref b59_0), _, _, _, _, _, X59, rfl, by decide, nofun, fun fs hr => ?_, ?_⟩
  · refine st2 _ ?_
    refine XS.dup X2.here hx rfl (hb hy d36_3) rfl rfl ?_
    refine xaloadN X2 hx hy d36_4 rfl rfl ?_
    refine st5 _ ?_
    refine X5.arraylength hx (by rw [e5]; exact Ar9.1) (State.isArrayOf_alike hZ.alike Ar9.2.1) (g := (mkF m 8 #[rv a1, rv a1, uu, uu, uu] [(.ref a3), (.ref b2), (.ref b2)])) rfl rfl (hb hy d36_8) _ ?_
    rw [len_of Sz9 Nn9]
    refine xaloadN X5 hx hy d36_9 rfl rfl ?_
    refine st10 _ ?_
    refine X10.arraylength hx (by rw [e10]; exact Ar11.1) (State.isArrayOf_alike hZ.alike Ar11.2.1) (g := (mkF m 13 #[rv a1, rv a1, uu, uu, uu] [(.ref a3), vi1, (.ref b2), (.ref b2)])) rfl rfl (hb hy d36_13) _ ?_
    rw [len_of Sz11 Nn11]
    refine XS.iadd X10.here hx rfl (hb hy d36_14) rfl ?_
    refine st12 _ ?_
    refine XS.astoreN X12.here hx rfl (hb hy d36_18) rfl rfl (l' := #[rv a1, rv a1, rv b2, uu, uu]) rfl ?_
    refine XS.iconst X12.here hx rfl (hb hy d36_19) ?_
    refine XS.istoreN X12.here hx rfl (hb hy d36_20) rfl (l' := #[rv a1, rv a1, rv b2, iv o0, uu]) rfl ?_
    refine XS.iconst X12.here hx rfl (hb hy d36_21) ?_
    refine XS.istore X12.here hx rfl (hb hy d36_22) rfl (l' := #[rv a1, rv a1, rv b2, iv o0, iv o0]) rfl ?_
    refine xiloadN X12 hx hy d36_24 rfl ?_
    refine xaloadN X12 hx hy d36_25 rfl rfl ?_
    refine st15 _ ?_
    refine X15.arraylength hx (by rw [e15]; exact Ar18.1) (State.isArrayOf_alike hZ.alike Ar18.2.1) (g := (mkF m 29 #[rv a1, rv a1, rv b2, iv o0, iv o0] [(.ref a3), vi0])) rfl rfl (hb hy d36_29) _ ?_
    rw [len_of Sz18 Nn18]
    refine XS.icmpNo X15.here hx rfl (hb hy d36_30) rfl (tlt (by decide : o0 < o1)).2.1 ?_
    refine xiload X15 hx hy d36_33 rfl ?_
    refine xaloadN X15 hx hy d36_35 rfl rfl ?_
    refine st19 _ ?_
    refine X19.arraylength hx (by rw [e19]; exact Ar20.1) (State.isArrayOf_alike hZ.alike Ar20.2.1) (g := (mkF m 39 #[rv a1, rv a1, rv b2, iv o0, iv o0] [(.ref a3), vi0])) rfl rfl (hb hy d36_39) _ ?_
    rw [len_of Sz20 Nn20]
    refine XS.icmpNo X19.here hx rfl (hb hy d36_40) rfl (tlt (by decide : o0 < o1)).2.1 ?_
    refine xaloadN X19 hx hy d36_43 rfl rfl ?_
    refine xaloadN X19 hx hy d36_44 rfl rfl ?_
    refine st21 _ ?_
    refine xiloadN X21 hx hy d36_48 rfl ?_
    refine own_laJ X21 hx hZ e21 fc17 (v := (.long q6)) (by decide) rfl (hb hy d36_49) ?_
    refine xaloadN X21 hx hy d36_50 rfl rfl ?_
    refine st23 _ ?_
    refine xiload X23 hx hy d36_54 rfl ?_
    refine own_laJ X23 hx hZ e23 fc17 (v := (.long q6)) (by decide) rfl (hb hy d36_56) ?_
    refine st25 _ ?_
    refine xaloadN X25 hx hy d36_60 rfl rfl ?_
    refine st28 _ ?_
    refine xiloadN X28 hx hy d36_64 rfl ?_
    refine own_laJ X28 hx hZ e28 fc32 (v := (.long q29)) (by decide) rfl (hb hy d36_65) ?_
    refine xaloadN X28 hx hy d36_66 rfl rfl ?_
    refine st34 _ ?_
    refine xiload X34 hx hy d36_70 rfl ?_
    refine own_laJ X34 hx hZ e34 fc32 (v := (.long q29)) (by decide) rfl (hb hy d36_72) ?_
    refine st36 _ ?_
    refine st37 _ ?_
    refine xaloadN X37 hx hy d36_79 rfl rfl ?_
    refine st44 _ ?_
    refine xiloadN X44 hx hy d36_83 rfl ?_
    refine own_laJ X44 hx hZ e44 fc47 (v := (.long q29)) (by decide) rfl (hb hy d36_84) ?_
    refine xaloadN X44 hx hy d36_85 rfl rfl ?_
    refine st49 _ ?_
    show SS p e below T49 m 89 #[rv a1, rv a1, rv b2, iv o0, iv o0] [(.ref a26), (.long q29)] _
    refine xiload X49 hx hy d36_89 rfl ?_
    refine own_laJ X49 hx hZ e49 fc47 (v := (.long q29)) (by decide) rfl (hb hy d36_91) ?_
    refine XS.lcmp X49.here hx rfl (hb hy d36_92) rfl ?_
    refine XS.ifYes X49.here hx rfl (pc0 := 93) (pc' := 102) rfl (hb hy d36_93) rfl ((if0 _ _).trans (flt ((fun z => pr6 ((lw_lt q29 q29).mp z)) : ¬ ((lcmpW q29 q29) < o0))).2.1) (by decide) (by decide) ?_
    refine XS.iinc X49.here hx rfl (hb hy d36_102) rfl (l' := #[rv a1, rv a1, rv b2, iv o0, .val (.int (o0 + o1))]) rfl ?_
    refine XS.goto X49.here hx rfl (pc0 := 105) (pc' := 24) rfl (hb hy d36_105) (by decide) (by decide) ?_
    refine xiloadN X49 hx hy d36_24 rfl ?_
    refine xaloadN X49 hx hy d36_25 rfl rfl ?_
    refine st52 _ ?_
    refine X52.arraylength hx (by rw [e52]; exact Ar56.1) (State.isArrayOf_alike hZ.alike Ar56.2.1) (g := (mkF m 29 #[rv a1, rv a1, rv b2, iv o0, iv o1] [(.ref a3), vi0])) rfl rfl (hb hy d36_29) _ ?_
    rw [len_of Sz56 Nn56]
    refine XS.icmpNo X52.here hx rfl (hb hy d36_30) rfl (tlt (by decide : o0 < o1)).2.1 ?_
    refine xiload X52 hx hy d36_33 rfl ?_
    refine xaloadN X52 hx hy d36_35 rfl rfl ?_
    refine st57 _ ?_
    refine X57.arraylength hx (by rw [e57]; exact Ar58.1) (State.isArrayOf_alike hZ.alike Ar58.2.1) (g := (mkF m 39 #[rv a1, rv a1, rv b2, iv o0, iv o1] [(.ref a3), vi1])) rfl rfl (hb hy d36_39) _ ?_
    rw [len_of Sz58 Nn58]
    refine XS.icmpYes X57.here hx rfl (pc0 := 40) (pc' := 108) rfl (hb hy d36_40) rfl (flt (by decide : ¬ (o1 < o1))).2.1 (by decide) (by decide) ?_
    refine xaloadN X57 hx hy d36_108 rfl rfl ?_
    refine st59 _ ?_
    show SS p e below T59 m 112 #[rv a1, rv a1, rv b2, iv o0, iv o1] [(.ref b59_0)] _
    exact own_retR X59 hx hret rfl rfl rfl (hb hy d36_112) hr
  · exact ⟨b59_0, b59_1, b59_2, b59_3, kx59_0, kx59_1, rfl, N59, KK59, sz_b59_0, sz_b59_1, sz_b59_2, sz_b59_3, u59_4, u59_5, u59_6, u59_7, u59_8, u59_9, u59_10, u59_11, u59_12, u59_13, u59_14, u59_15, u59_16, u59_17, u59_18⟩
theorem d45_0 : DC cb45 0 (.aload_n 0) 1 := by decide +kernel
theorem d45_1 : DC cb45 1 (.getfield 21) 3 := by decide +kernel
theorem d45_4 : DC cb45 4 (.iload_n 1) 1 := by decide +kernel
theorem d45_5 : DC cb45 5 (.aload_n 2) 1 := by decide +kernel
theorem d45_6 : DC cb45 6 (.aastore) 1 := by decide +kernel
theorem d45_7 : DC cb45 7 (.return_) 1 := by decide +kernel
theorem ef_45_46 (m : MethodId) (x0 : Addr) (x1 : Int32) (x2 : Addr) : entryFrame m #[(.ref x0), (.int x1), (.ref x2)] 3 = mkF m 0 #[.val (.ref x0), .val (.int x1), .val (.ref x2)] [] := by first | (simp [entryFrame, mkF, argsToLocals, Value.category]; done) | rfl
theorem rm45_0 (l : Launch) (Z : State) (a0 : Array Value) (hw : HW a0 Z) (a1 : Addr) (p2 : Int32) (a3 a4 a6 : Addr) (k7 : ClassId) (h0 : Heap) (n0 : Nat) (OL0 : Old Z n0 h0) (pr1 : Fld Z h0 a1 s45 "sets" s8 (.ref a4)) (pr2 : Asl Z h0 a4 k7 tV o12 p2 (.ref a6)) (pr3 : n0 ≤ a4) (pr4 : Ovr Z k7 s43) (pr5 : Exa Z h0 a3 s43) :
    MF l Z mn45 prog_66_method_14_code 3 none ⟨0, 0, 0, 0⟩ #[(.ref a1), (.int p2), (.ref a3)] h0 (fun v h L => v = none ∧ Fr n0 L ∧ Keep h0 h [a4] ∧ Asl Z h a4 k7 tV o12 p2 (.ref a3)) := by
  refine own_start (plainFor_of_name pn_7) (fun m => (ef_45_46 m a1 p2 a3)) ?_
  intro p e s m below meth c s₁ hZ hx hy hml ho hnm hret X0 e0
  have N0 := Fr.nil n0
  obtain ⟨T5, X5, e5, st5⟩ := gF X0 hx hZ ho (wd68 hw) Via.refl e0 pr1 1 #[rv a1, iv p2, rv a3] [] (hb hy d45_1)
  obtain ⟨T9, h9, X9, e9, W9, V9, st9⟩ := own_sA X5 hx hZ e5 pr2 (.ref a3) rfl rfl (fun _ A q => Sto.ofV A q pr4 (Ins.self pr5)) [] 6 #[rv a1, iv p2, rv a3] (hb hy d45_6)
  have KK9 : Keep h0 h9 [a4] := (Keep.refl h0 [a4]).wr W9 (Or.inl (List.mem_of_getElem? (i := 0) rfl))
  have N9 := Fr.snoc X9 N0 pr3
  refine ⟨none, _, _, _, _, _, X9, e9, by decide, fun _ => rfl, fun fs hr => ?_, ?_⟩
  · refine xaloadN X0 hx hy d45_0 rfl rfl ?_
    refine st5 _ ?_
    refine xiloadN X5 hx hy d45_4 rfl ?_
    refine xaloadN X5 hx hy d45_5 rfl rfl ?_
    refine st9 _ ?_
    show SS p e below T9 m 7 #[rv a1, iv p2, rv a3] [] _
    exact X9.returnOut hx hret (hb hy d45_7) hr
  · exact ⟨rfl, N9, KK9, V9⟩
theorem cl0 {a0 Z} (hw : HW a0 Z) : CL a0 Z s32 33 (sgm s35) mn45 prog_66_method_14_code 3 :=
  ⟨wx hw 206 rfl, wx hw 207 rfl, ⟨wx hw 208 rfl, by first | rfl | simp [Cond.onTables, Cond.keepsFace, Cond.keeps, Cond.steady]⟩, wx hw 317 rfl, fun _ hZ => Cond.privateMethod_at (mvP hZ (wx hw 318 rfl) (args := #[])), wx hw 319 rfl, wx hw 47 rfl, wx hw 200 rfl, own_lok0, ⟨rfl, rfl, by decide +kernel⟩, ⟨rfl, rfl, by decide +kernel⟩, by decide, rfl, ⟨_, _, pd_9, rfl⟩⟩
theorem rm27_2 (l : Launch) (Z : State) (a0 : Array Value) (hw : HW a0 Z) (a1 a2 a3 a6 : Addr) (p7 : Int32) (a8 a9 : Addr) (k10 : ClassId) (h0 : Heap) (n0 : Nat) (OL0 : Old Z n0 h0) (pr1 : Fld Z h0 a1 s32 "value" s3 (.ref a3)) (pr2 : LamF Z h0 a2 (sgm s35) a6 p7) (pr3 : Fld Z h0 a6 s45 "sets" s8 (.ref a8)) (pr4 : Asl Z h0 a8 k10 tV o12 p7 (.ref a9)) (pr5 : n0 ≤ a8) (pr6 : Ovr Z k10 s43) (pr7 : Exa Z h0 a3 s43) (pr8 : Exa Z h0 a6 s45) :
    MF l Z mn27 jdk_32_method_8_code 2 none ⟨2, 0, 0, 27⟩ #[(.ref a1), (.ref a2)] h0 (fun v h L => v = none ∧ Fr n0 L ∧ Keep h0 h [a8] ∧ Asl Z h a8 k10 tV o12 p7 (.ref a3)) := by
  refine own_start (plainFor_of_name pn_14) (fun m => (ef_27_38 m a1 a2)) ?_
  intro p e s m below meth c s₁ hZ hx hy hml ho hnm hret X0 e0
  have N0 := Fr.nil n0
  obtain ⟨T4, X4, e4, st4⟩ := gF X0 hx hZ ho (wd188 hw) Via.refl e0 pr1 1 #[rv a1, rv a2] [] (hb hy d27_1)
  obtain ⟨T5, X5, e5, st5⟩ := gF X4 hx hZ ho (wd188 hw) Via.refl e4 pr1 9 #[rv a1, rv a2] [(.ref a2)] (hb hy d27_9)
  obtain ⟨_, T11, L11, X11, hQ11, st11⟩ := own_cL X5 hx hZ ho hml (cl0 hw) (rm45_0 l Z a0 hw a6 p7 a3 a8 a9 k10 h0 n0 OL0 pr3 pr4 pr5 pr6 pr7) e5 pr2 pr8 pr7 12 #[rv a1, rv a2] [] 0 rfl (hb hy d27_12) (by decide) (by rintro _ _ _ ⟨q, -⟩; exact q)
  obtain ⟨rfl, Nq11, K11, u11_0⟩ := hQ11
  have KK11 : Keep h0 T11.heap [a8] := (Keep.refl h0 [a8]).trans K11 (allS (Or.inl (List.mem_of_getElem? (i := 0) rfl)) all0)
  have N11 := Fr.app N0 Nq11
  refine ⟨none, _, _, _, _, _, X11, rfl, by decide, fun _ => rfl, fun fs hr => ?_, ?_⟩
  · refine xaloadN X0 hx hy d27_0 rfl rfl ?_
    refine st4 _ ?_
    refine XS.ifnullNo X4.here hx rfl (hb hy d27_4) rfl ?_
    refine xaloadN X4 hx hy d27_7 rfl rfl ?_
    refine xaloadN X4 hx hy d27_8 rfl rfl ?_
    refine st5 _ ?_
    refine st11 _ ?_
    show SS p e below T11 m 17 #[rv a1, rv a2] [] _
    exact X11.returnOut hx hret (hb hy d27_17) hr
  · exact ⟨rfl, N11, KK11, u11_0⟩
theorem rm29_4 (l : Launch) (Z : State) (a0 : Array Value) (hw : HW a0 Z) (a1 : Addr) (p2 : Int32) (a3 a4 : Addr) (k6 : ClassId) (a10 : Addr) (q11 : Int64) (k12 : ClassId) (a13 : Addr) (q14 : Int64) (k15 : ClassId) (p17 : Int32) (a32 a35 : Addr) (p38 : Int32) (h0 : Heap) (n0 : Nat) (OL0 : Old Z n0 h0) (pr1 : Fld Z h0 a1 s45 "sets" s8 (.ref a4)) (pr2 : Asl Z h0 a4 k6 tV o12 p2 (.ref a3)) (pr3 : Fld Z h0 a3 s43 "lows" "[J" (.ref a10)) (pr4 : Arv Z h0 a10 k12 .long o1 [(.long q11)] lj0) (pr5 : Fld Z h0 a3 s43 "highs" "[J" (.ref a13)) (pr6 : Arv Z h0 a13 k15 .long o1 [(.long q14)] lj0) (pr7 : ¬ ((own_jmin q14 q14) < (own_jmax q11 q11))) (pr8 : ¬ (q14 < q14)) (pr9 : Exa Z h0 a3 s43) (pr10 : Fld Z h0 a1 s45 s15 "Z" (.int p17)) (pr11 : Exa Z h0 a1 s45) (pr12 : n0 ≤ a1) (pr13 : a4 ≠ a1) (pr14 : n0 ≤ a4) (pr15 : Ovr Z k6 s43) (pr16 : Fld Z h0 a1 s45 s11 s5 (.ref a32)) (pr17 : a1 ≠ a4) (pr18 : Fld Z h0 a1 s45 s16 s5 (.ref a35)) (pr19 : Fld Z h0 a1 s45 s48 "Z" (.int p38)) :
    MF l Z mn29 prog_66_method_2_code 4 none ⟨5, 8, 14, 3075⟩ #[(.ref a1), (.int p2), (.ref a3)] h0 (fun v h L => ∃ b16_1 b16_2 b16_3 : Addr, ∃ kx16_0 : ClassId, ∃ kx16_1 : ClassId, v = none ∧ Fr n0 L ∧ Keep h0 h [a1, a4] ∧ h0.size ≤ b16_1 ∧ h0.size ≤ b16_2 ∧ h0.size ≤ b16_3 ∧ b16_1 ≠ b16_2 ∧ b16_1 ≠ b16_3 ∧ b16_2 ≠ b16_3 ∧ Fld Z h a1 s45 "sets" s8 (.ref a4) ∧ Fld Z h a1 s45 s15 "Z" (.int (nar .boolean (p17 ||| o0))) ∧ Fld Z h a1 s45 s11 s5 (.ref a32) ∧ Fld Z h a1 s45 s16 s5 (.ref a35) ∧ Fld Z h a1 s45 s48 "Z" (.int p38) ∧ Asl Z h a4 k6 tV o12 p2 (.ref b16_1) ∧ Exa Z h b16_1 s43 ∧ Fld Z h b16_1 s43 "lows" "[J" (.ref b16_2) ∧ Fld Z h b16_1 s43 "highs" "[J" (.ref b16_3) ∧ Arv Z h b16_2 kx16_0 .long o1 [(.long (own_jmax q11 q11))] lj0 ∧ Exa Z h b16_2 "[J" ∧ Arv Z h b16_3 kx16_1 .long o1 [(.long (own_jmin q14 q14))] lj0 ∧ Exa Z h b16_3 "[J") := by
  refine own_startN (plainFor_of_name pn_7) (fun m => (ef_29_12 m a1 p2 a3)) ?_
  intro p e s m below meth c s₁ hZ hx hy hml ho hnm hnamed hret X0 e0
  have N0 := Fr.nil n0
  obtain ⟨T5, X5, e5, st5⟩ := gF X0 hx hZ ho (wd68 hw) Via.refl e0 pr1 1 #[rv a1, iv p2, rv a3, uu] [] (hb hy d29_1)
  obtain ⟨T8, X8, e8, st8⟩ := gF X5 hx hZ ho (wd68 hw) Via.refl e5 pr1 18 #[rv a1, iv p2, rv a3, uu] [] (hb hy d29_18)
  obtain ⟨_, T16, L16, X16, hQ16, st16⟩ := own_cV X8 hx hZ ho hml (cw44 hw) (rm36_3 l Z a0 hw a3 a10 q11 k12 a13 q14 k15 h0 n0 OL0 pr3 pr4 pr5 pr6 pr7 pr8) e8 pr9 24 #[rv a1, iv p2, rv a3, uu] [(.ref a3)] [] 0 rfl (hb hy d29_24) (by decide)
  obtain ⟨b16_0, b16_1, b16_2, b16_3, kx16_0, kx16_1, rfl, Nq16, K16, u16_0, u16_1, u16_2, u16_3, u16_4, u16_5, u16_6, u16_7, u16_8, u16_9, u16_10, u16_11, u16_12, u16_13, u16_14, u16_15, u16_16, u16_17, u16_18⟩ := hQ16
  have KK16 : Keep h0 T16.heap [a1, a4] := (Keep.refl h0 [a1, a4]).trans K16 all0
  have OL16 := OL0.keep K16 all0
  have sz_b16_0 : h0.size ≤ b16_0 := Nat.le_trans (Keep.refl h0 [a1, a4]).1 u16_0
  have sz_b16_1 : h0.size ≤ b16_1 := Nat.le_trans (Keep.refl h0 [a1, a4]).1 u16_1
  have sz_b16_2 : h0.size ≤ b16_2 := Nat.le_trans (Keep.refl h0 [a1, a4]).1 u16_2
  have sz_b16_3 : h0.size ≤ b16_3 := Nat.le_trans (Keep.refl h0 [a1, a4]).1 u16_3
  have N16 := Fr.app N0 Nq16
  have fc18 := (pr10.keep K16 nin0)
  obtain ⟨T19, X19, e19, st19⟩ := gF X16 hx hZ ho (wd190 hw) Via.refl rfl fc18 30 #[rv a1, iv p2, rv a3, rv b16_0] [(.ref a1)] (hb hy d29_30)
  obtain ⟨_, T20, L20, X20, hQ20, st20⟩ := own_cV X19 hx hZ ho hml (cw37 hw) (rm26_0 l Z a0 hw b16_0 b16_1 T16.heap n0 OL16 u16_11) e19 u16_10 34 #[rv a1, iv p2, rv a3, rv b16_0] [] [(.int p17), (.ref a1)] 2 rfl (hb hy d29_34) (by decide)
  obtain ⟨rfl, Nq20, ec20⟩ := hQ20
  have N20 := Fr.app N16 Nq20
  have fc21 := (pr11.keep K16)
  obtain ⟨T22, h22, X22, e22, W22, st22⟩ := putFN X20 hx hZ ho (wd190 hw) Via.refl ec20 fc18 fc21 (Or.inl (wd191 hw)) (wd46 hw) (ty := .boolean) (v' := (.int (nar .boolean (p17 ||| o0)))) (by decide) rfl (fits_nar_bool _) (g := (mkF m 38 #[rv a1, iv p2, rv a3, rv b16_0] [(.int (p17 ||| o0)), (.ref a1)])) rfl rfl (hb hy d29_38)
  have Fw22 := fc18.same W22
  have KK22 : Keep h0 h22 [a1, a4] := KK16.wr W22 (Or.inl (List.mem_of_getElem? (i := 0) rfl))
  have OL22 := OL16.wr W22 pr12
  have N22 := Fr.snoc X22 N20 pr12
  obtain ⟨T23, h23, X23, e23, E23, LM23, st23⟩ := own_mk X22 hx hZ hml hnamed (wd282 hw) (wd200 hw) own_lok0 rfl rfl e22 a1 p2 #[rv a1, iv p2, rv a3, rv b16_0] [(.ref b16_0)] rfl (hb hy d29_44) (by decide) (by decide) (W := 1) rfl (by decide)
  obtain ⟨b23, g23⟩ : ∃ z, z = h22.size := ⟨_, rfl⟩
  rw [← g23] at LM23 st23
  have KK23 : Keep h0 h23 [a1, a4] := KK22.ext E23
  have OL23 := OL22.ext E23
  have nz25 := nl pr11.lt sz_b16_0
  have fc26 := ((u16_11.other W22 (Or.inl (Ne.symm nz25))).ext E23)
  have fc27 := (((pr1.keep K16 nin0).other W22 (Or.inr (slot_ne (Or.inr (wd69 hw)) (Or.inl (wd191 hw)) (by decide) (t := (.array tV)) (t' := .boolean) (by decide) (by decide)))).ext E23)
  have fc28 := (((pr2.keep K16 nin0).other W22 pr13).ext E23)
  have fc29 := ((u16_12.wr W22).ext E23)
  have fc30 := ((fc21.wr W22).ext E23)
  have fc31 := ((u16_10.wr W22).ext E23)
  obtain ⟨_, T24, L24, X24, hQ24, st24⟩ := own_cV X23 hx hZ ho hml (cw39 hw) (rm27_2 l Z a0 hw b16_0 b23 b16_1 a1 p2 a4 a3 k6 h23 n0 OL23 fc26 LM23 fc27 fc28 pr14 pr15 fc29 fc30) e23 fc31 49 #[rv a1, iv p2, rv a3, rv b16_0] [(.ref b23)] [] 0 rfl (hb hy d29_49) (by decide)
  obtain ⟨rfl, Nq24, K24, u24_0⟩ := hQ24
  have KK24 : Keep h0 T24.heap [a1, a4] := KK23.trans K24 (allS (Or.inl (List.mem_of_getElem? (i := 1) rfl)) all0)
  have N24 := Fr.app N22 Nq24
  have fc33 := ((((pr16.keep K16 nin0).other W22 (Or.inr (slot_ne (Or.inr (wd97 hw)) (Or.inl (wd191 hw)) (by decide) (t := (.object s30)) (t' := .boolean) (by decide) (by decide)))).ext E23).keep K24 (ninS pr17 nin0))
  have fc34 := ((Fw22.ext E23).keep K24 (ninS pr17 nin0))
  have fc36 := ((((pr18.keep K16 nin0).other W22 (Or.inr (slot_ne (Or.inr (wd95 hw)) (Or.inl (wd191 hw)) (by decide) (t := (.object s30)) (t' := .boolean) (by decide) (by decide)))).ext E23).keep K24 (ninS pr17 nin0))
  have fc37 := (fc27.keep K24 (ninS pr17 nin0))
  have fc39 := ((((pr19.keep K16 nin0).other W22 (Or.inr (slot_ne (Or.inl (wd104 hw)) (Or.inl (wd191 hw)) (by decide) (t := .boolean) (t' := .boolean) (by decide) (by decide)))).ext E23).keep K24 (ninS pr17 nin0))
  have fc40 := (fc29.keep K24)
  have nz41 := nl pr19.lt sz_b16_1
  have nz42 := nl pr2.lt sz_b16_1
  have fc43 := (((u16_13.other W22 (Or.inl (Ne.symm nz41))).ext E23).keep K24 (ninS (Ne.symm nz42) nin0))
  have fc44 := (((u16_14.other W22 (Or.inl (Ne.symm nz41))).ext E23).keep K24 (ninS (Ne.symm nz42) nin0))
  have nz45 := nl pr19.lt sz_b16_2
  have nz46 := nl pr2.lt sz_b16_2
  have fc47 := (((u16_15.other W22 (Ne.symm nz45)).ext E23).keep K24 (ninS (Ne.symm nz46) nin0))
  have fc48 := (((u16_16.wr W22).ext E23).keep K24)
  have nz49 := nl pr19.lt sz_b16_3
  have nz50 := nl pr2.lt sz_b16_3
  have fc51 := (((u16_17.other W22 (Ne.symm nz49)).ext E23).keep K24 (ninS (Ne.symm nz50) nin0))
  have fc52 := (((u16_18.wr W22).ext E23).keep K24)
  refine ⟨none, _, _, _, _, _, X24, rfl, by decide, fun _ => rfl, fun fs hr => ?_, ?_⟩
  · refine xaloadN X0 hx hy d29_0 rfl rfl ?_
    refine st5 _ ?_
    refine xiloadN X5 hx hy d29_4 rfl ?_
    refine own_lA X5 hx hZ e5 pr2 rfl (hb hy d29_5) ?_
    refine XS.ifnonnullYes X5.here hx rfl (pc0 := 6) (pc' := 17) rfl (hb hy d29_6) rfl (by decide) (by decide) ?_
    refine xaloadN X5 hx hy d29_17 rfl rfl ?_
    refine st8 _ ?_
    refine xiloadN X8 hx hy d29_21 rfl ?_
    refine own_lA X8 hx hZ e8 pr2 rfl (hb hy d29_22) ?_
    refine xaloadN X8 hx hy d29_23 rfl rfl ?_
    refine st16 _ ?_
    refine XS.astoreN X16.here hx rfl (hb hy d29_27) rfl rfl (l' := #[rv a1, iv p2, rv a3, rv b16_0]) rfl ?_
    refine xaloadN X16 hx hy d29_28 rfl rfl ?_
    refine XS.dup X16.here hx rfl (hb hy d29_29) rfl rfl ?_
    refine st19 _ ?_
    refine xaloadN X19 hx hy d29_33 rfl rfl ?_
    refine st20 _ ?_
    refine XS.ior X20.here hx rfl (hb hy d29_37) rfl ?_
    refine st22 _ ?_
    refine xaloadN X22 hx hy d29_41 rfl rfl ?_
    refine xaloadN X22 hx hy d29_42 rfl rfl ?_
    refine xiloadN X22 hx hy d29_43 rfl ?_
    refine st23 _ ?_
    refine st24 _ ?_
    show SS p e below T24 m 52 #[rv a1, iv p2, rv a3, rv b16_0] [] _
    exact X24.returnOut hx hret (hb hy d29_52) hr
  · exact ⟨b16_1, b16_2, b16_3, kx16_0, kx16_1, rfl, N24, KK24, sz_b16_1, sz_b16_2, sz_b16_3, u16_7, u16_8, u16_9, fc37, fc34, fc33, fc36, fc39, u24_0, fc40, fc43, fc44, fc47, fc48, fc51, fc52⟩
theorem sg199_8 (l : Launch) (Z : State) (a0 : Array Value) (hw : HW a0 Z) (p1 p2 : Int32) (q3 q4 : Int64) (p5 : Int32) (q6 q7 : Int64) (p8 p9 p10 : Int32) (a11 a12 a13 a16 : Addr) (k17 : ClassId) (a18 : Addr) (k19 : ClassId) (a20 : Addr) (k21 : ClassId) (p22 : Int32) (a23 a24 : Addr) (h0 : Heap) (n0 : Nat) (OL0 : Old Z n0 h0) (pr1 : Fld Z h0 a13 s45 s48 "Z" vi0) (pr2 : Exa Z h0 a13 s45) (pr3 : Fld Z h0 a13 s45 "sets" s8 (.ref a16)) (pr4 : Asl Z h0 a16 k17 tV o12 p5 (.ref a12)) (pr5 : Fld Z h0 a12 s43 "lows" "[J" (.ref a18)) (pr6 : Arv Z h0 a18 k19 .long o1 [(.long q6)] lj0) (pr7 : Fld Z h0 a12 s43 "highs" "[J" (.ref a20)) (pr8 : Arv Z h0 a20 k21 .long o1 [(.long q7)] lj0) (pr9 : ¬ (q7 < q6)) (pr10 : Exa Z h0 a12 s43) (pr11 : Fld Z h0 a13 s45 s15 "Z" (.int p22)) (pr12 : n0 ≤ a13) (pr13 : a16 ≠ a13) (pr14 : n0 ≤ a16) (pr15 : Ovr Z k17 s43) (pr16 : Fld Z h0 a13 s45 s11 s5 (.ref a23)) (pr17 : a13 ≠ a16) (pr18 : Fld Z h0 a13 s45 s16 s5 (.ref a24))
    (st0 : ST Z p l e s m args below meth c T0 locs cells slots h0 n0) (hcl : cells + 8 ≤ 80) (hsl : slots + 14 ≤ 320) : SG p l e s m args below meth c T0 n0 199 (LV p1 p2 q3 q4 p5 q6 q7 p8 p9 p10 a11 a12 a13 (iv o1) (iv o0) uu) := by
  obtain ⟨hZ, hx, hy, hml, ho, hnm, hret, X0, e0, N0⟩ := st0
  have pre0 : ∀ t, SS p e below T0 m 199 (LV p1 p2 q3 q4 p5 q6 q7 p8 p9 p10 a11 a12 a13 (iv o1) (iv o0) uu) [] t → SS p e below T0 m 199 (LV p1 p2 q3 q4 p5 q6 q7 p8 p9 p10 a11 a12 a13 (iv o1) (iv o0) uu) [] t := fun _ k => k
  have pre14 : ∀ t, SS p e below T0 m 204 (LV p1 p2 q3 q4 p5 q6 q7 p8 p9 p10 a11 a12 a13 (iv o1) (iv o0) uu) [(.int (p1 &&& (128 : Int32)))] t → SS p e below T0 m 199 (LV p1 p2 q3 q4 p5 q6 q7 p8 p9 p10 a11 a12 a13 (iv o1) (iv o0) uu) [] t := by
    intro t kt
    refine pre0 _ ?_
    refine xiloadN X0 hx hy at_199 rfl ?_
    refine XS.sipush X0.here hx rfl (hb hy at_200) ?_
    refine XS.iand X0.here hx rfl (hb hy at_203) rfl ?_
    exact kt
  by_cases hf14 : (p1 &&& (128 : Int32)) = o0
  · obtain ⟨_, _, _, _, XX15, hk15, hN15, sg15⟩ := sg216_0 l Z a0 hw p1 p2 q3 q4 p5 q6 q7 p8 p9 p10 a11 a12 a13 h0 n0 OL0 pr1 pr2 ⟨hZ, hx, hy, hml, ho, hnm, hret, X0, e0, N0⟩ (by show cells + 0 ≤ 80; omega) (by show slots + 0 ≤ 320; omega)
    refine ⟨_, _, _, _, XX15, hk15, hN15, fun fs hr => pre14 _ ?_⟩
    refine XS.ifYes X0.here hx rfl (pc0 := 204) (pc' := 216) rfl (hb hy at_204) rfl ((if0 _ _).trans (teq hf14).1) (by decide) (by decide) ?_
    exact sg15 fs hr
  · obtain ⟨_, T25, L25, X25, hQ25, st25⟩ := own_cV X0 hx hZ ho hml (cw12 hw) (rm29_4 l Z a0 hw a13 p5 a12 a16 k17 a18 q6 k19 a20 q7 k21 p22 a23 a24 o0 h0 n0 OL0 pr3 pr4 pr5 pr6 pr7 pr8 (own_p10 pr9) own_p15 pr10 pr11 pr2 pr12 pr13 pr14 pr15 pr16 pr17 pr18 pr1) e0 pr2 213 (LV p1 p2 q3 q4 p5 q6 q7 p8 p9 p10 a11 a12 a13 (iv o1) (iv o0) uu) [(.int p5), (.ref a12)] [] 0 rfl (hb hy at_213) ⟨by decide, by decide, by show cells + 8 ≤ 80; omega, by show slots + 14 ≤ 320; omega⟩
    obtain ⟨b25_0, b25_1, b25_2, kx25_0, kx25_1, rfl, Nq25, K25, u25_0, u25_1, u25_2, u25_3, u25_4, u25_5, u25_6, u25_7, u25_8, u25_9, u25_10, u25_11, u25_12, u25_13, u25_14, u25_15, u25_16, u25_17, u25_18⟩ := hQ25
    have OL25 := OL0.keep K25 (allS pr12 (allS pr14 all0))
    have N25 := Fr.app N0 Nq25
    have fc27 := (pr2.keep K25)
    obtain ⟨_, _, _, _, XX26, hk26, hN26, sg26⟩ := sg216_0 l Z a0 hw p1 p2 q3 q4 p5 q6 q7 p8 p9 p10 a11 a12 a13 T25.heap n0 OL25 u25_10 fc27 ⟨hZ, hx, hy, hml, ho, hnm, hret, X25, rfl, N25⟩ (by show cells + 8 + 0 ≤ 80; omega) (by show slots + 14 + 0 ≤ 320; omega)
    refine ⟨_, _, _, _, XX26, hk26, hN26, fun fs hr => pre14 _ ?_⟩
    refine XS.ifNo X0.here hx rfl (hb hy at_204) rfl ((if0 _ _).trans (feq hf14).1) ?_
    refine xaload X0 hx hy at_207 rfl rfl ?_
    refine xiload X0 hx hy at_209 rfl ?_
    refine xaload X0 hx hy at_211 rfl rfl ?_
    refine st25 _ ?_
    exact sg26 fs hr
theorem sg199_9 (l : Launch) (Z : State) (a0 : Array Value) (hw : HW a0 Z) (p1 p2 : Int32) (q3 q4 : Int64) (p5 : Int32) (q6 q7 : Int64) (p8 p9 p10 : Int32) (a11 a12 a13 a16 : Addr) (k17 : ClassId) (a18 : Addr) (k19 : ClassId) (a20 : Addr) (k21 : ClassId) (p22 : Int32) (a23 a24 : Addr) (h0 : Heap) (n0 : Nat) (OL0 : Old Z n0 h0) (pr1 : Fld Z h0 a13 s45 s48 "Z" vi1) (pr2 : Exa Z h0 a13 s45) (pr3 : Fld Z h0 a13 s45 "sets" s8 (.ref a16)) (pr4 : Asl Z h0 a16 k17 tV o12 p5 (.ref a12)) (pr5 : Fld Z h0 a12 s43 "lows" "[J" (.ref a18)) (pr6 : Arv Z h0 a18 k19 .long o1 [(.long q6)] lj0) (pr7 : Fld Z h0 a12 s43 "highs" "[J" (.ref a20)) (pr8 : Arv Z h0 a20 k21 .long o1 [(.long q7)] lj0) (pr9 : ¬ (q7 < q6)) (pr10 : Exa Z h0 a12 s43) (pr11 : Fld Z h0 a13 s45 s15 "Z" (.int p22)) (pr12 : n0 ≤ a13) (pr13 : a16 ≠ a13) (pr14 : n0 ≤ a16) (pr15 : Ovr Z k17 s43) (pr16 : Fld Z h0 a13 s45 s11 s5 (.ref a23)) (pr17 : a13 ≠ a16) (pr18 : Fld Z h0 a13 s45 s16 s5 (.ref a24))
    (st0 : ST Z p l e s m args below meth c T0 locs cells slots h0 n0) (hcl : cells + 8 ≤ 80) (hsl : slots + 14 ≤ 320) : SG p l e s m args below meth c T0 n0 199 (LV p1 p2 q3 q4 p5 q6 q7 p8 p9 p10 a11 a12 a13 (iv o1) (iv o1) uu) := by
  obtain ⟨hZ, hx, hy, hml, ho, hnm, hret, X0, e0, N0⟩ := st0
  have pre0 : ∀ t, SS p e below T0 m 199 (LV p1 p2 q3 q4 p5 q6 q7 p8 p9 p10 a11 a12 a13 (iv o1) (iv o1) uu) [] t → SS p e below T0 m 199 (LV p1 p2 q3 q4 p5 q6 q7 p8 p9 p10 a11 a12 a13 (iv o1) (iv o1) uu) [] t := fun _ k => k
  have pre14 : ∀ t, SS p e below T0 m 204 (LV p1 p2 q3 q4 p5 q6 q7 p8 p9 p10 a11 a12 a13 (iv o1) (iv o1) uu) [(.int (p1 &&& (128 : Int32)))] t → SS p e below T0 m 199 (LV p1 p2 q3 q4 p5 q6 q7 p8 p9 p10 a11 a12 a13 (iv o1) (iv o1) uu) [] t := by
    intro t kt
    refine pre0 _ ?_
    refine xiloadN X0 hx hy at_199 rfl ?_
    refine XS.sipush X0.here hx rfl (hb hy at_200) ?_
    refine XS.iand X0.here hx rfl (hb hy at_203) rfl ?_
    exact kt
  by_cases hf14 : (p1 &&& (128 : Int32)) = o0
  · obtain ⟨_, _, _, _, XX15, hk15, hN15, sg15⟩ := sg216_1 l Z a0 hw p1 p2 q3 q4 p5 q6 q7 p8 p9 p10 a11 a12 a13 h0 n0 OL0 pr1 pr2 ⟨hZ, hx, hy, hml, ho, hnm, hret, X0, e0, N0⟩ (by show cells + 0 ≤ 80; omega) (by show slots + 0 ≤ 320; omega)
    refine ⟨_, _, _, _, XX15, hk15, hN15, fun fs hr => pre14 _ ?_⟩
    refine XS.ifYes X0.here hx rfl (pc0 := 204) (pc' := 216) rfl (hb hy at_204) rfl ((if0 _ _).trans (teq hf14).1) (by decide) (by decide) ?_
    exact sg15 fs hr
  · obtain ⟨_, T25, L25, X25, hQ25, st25⟩ := own_cV X0 hx hZ ho hml (cw12 hw) (rm29_4 l Z a0 hw a13 p5 a12 a16 k17 a18 q6 k19 a20 q7 k21 p22 a23 a24 o1 h0 n0 OL0 pr3 pr4 pr5 pr6 pr7 pr8 (own_p10 pr9) own_p15 pr10 pr11 pr2 pr12 pr13 pr14 pr15 pr16 pr17 pr18 pr1) e0 pr2 213 (LV p1 p2 q3 q4 p5 q6 q7 p8 p9 p10 a11 a12 a13 (iv o1) (iv o1) uu) [(.int p5), (.ref a12)] [] 0 rfl (hb hy at_213) ⟨by decide, by decide, by show cells + 8 ≤ 80; omega, by show slots + 14 ≤ 320; omega⟩
    obtain ⟨b25_0, b25_1, b25_2, kx25_0, kx25_1, rfl, Nq25, K25, u25_0, u25_1, u25_2, u25_3, u25_4, u25_5, u25_6, u25_7, u25_8, u25_9, u25_10, u25_11, u25_12, u25_13, u25_14, u25_15, u25_16, u25_17, u25_18⟩ := hQ25
    have OL25 := OL0.keep K25 (allS pr12 (allS pr14 all0))
    have N25 := Fr.app N0 Nq25
    have fc27 := (pr2.keep K25)
    obtain ⟨_, _, _, _, XX26, hk26, hN26, sg26⟩ := sg216_1 l Z a0 hw p1 p2 q3 q4 p5 q6 q7 p8 p9 p10 a11 a12 a13 T25.heap n0 OL25 u25_10 fc27 ⟨hZ, hx, hy, hml, ho, hnm, hret, X25, rfl, N25⟩ (by show cells + 8 + 0 ≤ 80; omega) (by show slots + 14 + 0 ≤ 320; omega)
    refine ⟨_, _, _, _, XX26, hk26, hN26, fun fs hr => pre14 _ ?_⟩
    refine XS.ifNo X0.here hx rfl (hb hy at_204) rfl ((if0 _ _).trans (feq hf14).1) ?_
    refine xaload X0 hx hy at_207 rfl rfl ?_
    refine xiload X0 hx hy at_209 rfl ?_
    refine xaload X0 hx hy at_211 rfl rfl ?_
    refine st25 _ ?_
    exact sg26 fs hr
theorem sg168_4 (l : Launch) (Z : State) (a0 : Array Value) (hw : HW a0 Z) (p1 p2 : Int32) (q3 q4 : Int64) (p5 : Int32) (q6 q7 : Int64) (p8 p9 p10 : Int32) (a11 a12 a13 a16 : Addr) (k17 : ClassId) (a18 : Addr) (k19 : ClassId) (a20 : Addr) (k21 : ClassId) (p22 : Int32) (a23 a24 : Addr) (h0 : Heap) (n0 : Nat) (OL0 : Old Z n0 h0) (pr1 : Fld Z h0 a13 s45 s48 "Z" vi0) (pr2 : Exa Z h0 a13 s45) (pr3 : Fld Z h0 a13 s45 "sets" s8 (.ref a16)) (pr4 : Asl Z h0 a16 k17 tV o12 p5 (.ref a12)) (pr5 : Fld Z h0 a12 s43 "lows" "[J" (.ref a18)) (pr6 : Arv Z h0 a18 k19 .long o1 [(.long q6)] lj0) (pr7 : Fld Z h0 a12 s43 "highs" "[J" (.ref a20)) (pr8 : Arv Z h0 a20 k21 .long o1 [(.long q7)] lj0) (pr9 : ¬ (q7 < q6)) (pr10 : Exa Z h0 a12 s43) (pr11 : Fld Z h0 a13 s45 s15 "Z" (.int p22)) (pr12 : n0 ≤ a13) (pr13 : a16 ≠ a13) (pr14 : n0 ≤ a16) (pr15 : Ovr Z k17 s43) (pr16 : Fld Z h0 a13 s45 s11 s5 (.ref a23)) (pr17 : a13 ≠ a16) (pr18 : Fld Z h0 a13 s45 s16 s5 (.ref a24)) (pr19 : a12 ≠ a13) (pr20 : a18 ≠ a13) (pr21 : a20 ≠ a13)
    (st0 : ST Z p l e s m args below meth c T0 locs cells slots h0 n0) (hcl : cells + 8 ≤ 80) (hsl : slots + 14 ≤ 320) : SG p l e s m args below meth c T0 n0 168 (LV p1 p2 q3 q4 p5 q6 q7 p8 p9 p10 a11 a12 a13 uu uu uu) := by
  obtain ⟨hZ, hx, hy, hml, ho, hnm, hret, X0, e0, N0⟩ := st0
  have pre0 : ∀ t, SS p e below T0 m 168 (LV p1 p2 q3 q4 p5 q6 q7 p8 p9 p10 a11 a12 a13 uu uu uu) [] t → SS p e below T0 m 168 (LV p1 p2 q3 q4 p5 q6 q7 p8 p9 p10 a11 a12 a13 uu uu uu) [] t := fun _ k => k
  obtain ⟨_, T14, L14, X14, hQ14, st14⟩ := own_cV X0 hx hZ ho hml (cw11 hw) (rm13_0 l Z a0 hw a13 h0 n0 OL0 pr1) e0 pr2 170 (LV p1 p2 q3 q4 p5 q6 q7 p8 p9 p10 a11 a12 a13 uu uu uu) [] [] 0 rfl (hb hy at_170) ⟨by decide, by decide, by show cells + 0 ≤ 80; omega, by show slots + 0 ≤ 320; omega⟩
  obtain ⟨rfl, Nq14, ec14⟩ := hQ14
  have N14 := Fr.app N0 Nq14
  have pre15 : ∀ t, SS p e below T14 m 179 (LV p1 p2 q3 q4 p5 q6 q7 p8 p9 p10 a11 a12 a13 (iv o1) uu uu) [(.int (p1 &&& (64 : Int32)))] t → SS p e below T0 m 168 (LV p1 p2 q3 q4 p5 q6 q7 p8 p9 p10 a11 a12 a13 uu uu uu) [] t := by
    intro t kt
    refine pre0 _ ?_
    refine xaload X0 hx hy at_168 rfl rfl ?_
    refine st14 _ ?_
    refine XS.istore X14.here hx rfl (hb hy at_173) rfl (l' := (LV p1 p2 q3 q4 p5 q6 q7 p8 p9 p10 a11 a12 a13 (iv o1) uu uu)) rfl ?_
    refine xiloadN X14 hx hy at_175 rfl ?_
    refine XS.bipush X14.here hx rfl (hb hy at_176) ?_
    refine XS.iand X14.here hx rfl (hb hy at_178) rfl ?_
    exact kt
  by_cases hf15 : (p1 &&& (64 : Int32)) = o0
  · obtain ⟨_, _, _, _, XX25, hk25, hN25, sg25⟩ := sg199_8 l Z a0 hw p1 p2 q3 q4 p5 q6 q7 p8 p9 p10 a11 a12 a13 a16 k17 a18 k19 a20 k21 p22 a23 a24 h0 n0 OL0 pr1 pr2 pr3 pr4 pr5 pr6 pr7 pr8 pr9 pr10 pr11 pr12 pr13 pr14 pr15 pr16 pr17 pr18 ⟨hZ, hx, hy, hml, ho, hnm, hret, X14, ec14, N14⟩ (by show cells + 0 + 8 ≤ 80; omega) (by show slots + 0 + 14 ≤ 320; omega)
    refine ⟨_, _, _, _, XX25, hk25, hN25, fun fs hr => pre15 _ ?_⟩
    refine XS.ifYes X14.here hx rfl (pc0 := 179) (pc' := 186) rfl (hb hy at_179) rfl ((if0 _ _).trans (teq hf15).1) (by decide) (by decide) ?_
    refine XS.iconst X14.here hx rfl (hb hy at_186) ?_
    refine XS.istore X14.here hx rfl (hb hy at_187) rfl (l' := (LV p1 p2 q3 q4 p5 q6 q7 p8 p9 p10 a11 a12 a13 (iv o1) (iv o0) uu)) rfl ?_
    refine xiload X14 hx hy at_189 rfl ?_
    refine XS.ifYes X14.here hx rfl (pc0 := 191) (pc' := 199) rfl (hb hy at_191) rfl ((if0 _ _).trans (teq (rfl : o0 = o0)).1) (by decide) (by decide) ?_
    exact sg25 fs hr
  · obtain ⟨_, T26, L26, X26, hQ26, st26⟩ := own_cV X14 hx hZ ho hml (cw13 hw) (rm43_0 l Z a0 hw a13 a23 p22 a24 a16 h0 n0 OL0 pr2 pr1 pr12 pr16 pr11 pr18 pr3) ec14 pr2 196 (LV p1 p2 q3 q4 p5 q6 q7 p8 p9 p10 a11 a12 a13 (iv o1) (iv o1) uu) [] [] 0 rfl (hb hy at_196) ⟨by decide, by decide, by show cells + 0 + 0 ≤ 80; omega, by show slots + 0 + 0 ≤ 320; omega⟩
    obtain ⟨rfl, Nq26, K26, u26_0, u26_1, u26_2, u26_3, u26_4⟩ := hQ26
    have OL26 := OL0.keep K26 (allS pr12 all0)
    have N26 := Fr.app N14 Nq26
    have fc28 := (pr2.keep K26)
    have fc29 := (pr4.keep K26 (ninS pr13 nin0))
    have fc30 := (pr5.keep K26 (ninS pr19 nin0))
    have fc31 := (pr6.keep K26 (ninS pr20 nin0))
    have fc32 := (pr7.keep K26 (ninS pr19 nin0))
    have fc33 := (pr8.keep K26 (ninS pr21 nin0))
    have fc34 := (pr10.keep K26)
    obtain ⟨_, _, _, _, XX27, hk27, hN27, sg27⟩ := sg199_9 l Z a0 hw p1 p2 q3 q4 p5 q6 q7 p8 p9 p10 a11 a12 a13 a16 k17 a18 k19 a20 k21 p22 a23 a24 T26.heap n0 OL26 u26_0 fc28 u26_4 fc29 fc30 fc31 fc32 fc33 pr9 fc34 u26_2 pr12 pr13 pr14 pr15 u26_1 pr17 u26_3 ⟨hZ, hx, hy, hml, ho, hnm, hret, X26, rfl, N26⟩ (by show cells + 0 + 0 + 8 ≤ 80; omega) (by show slots + 0 + 0 + 14 ≤ 320; omega)
    refine ⟨_, _, _, _, XX27, hk27, hN27, fun fs hr => pre15 _ ?_⟩
    refine XS.ifNo X14.here hx rfl (hb hy at_179) rfl ((if0 _ _).trans (feq hf15).1) ?_
    refine XS.iconst X14.here hx rfl (hb hy at_182) ?_
    refine XS.goto X14.here hx rfl (pc0 := 183) (pc' := 187) rfl (hb hy at_183) (by decide) (by decide) ?_
    refine XS.istore X14.here hx rfl (hb hy at_187) rfl (l' := (LV p1 p2 q3 q4 p5 q6 q7 p8 p9 p10 a11 a12 a13 (iv o1) (iv o1) uu)) rfl ?_
    refine xiload X14 hx hy at_189 rfl ?_
    refine XS.ifNo X14.here hx rfl (hb hy at_191) rfl ((if0 _ _).trans (feq (by decide : ¬ (o1 = o0))).1) ?_
    refine xaload X14 hx hy at_194 rfl rfl ?_
    refine st26 _ ?_
    exact sg27 fs hr
theorem sg150_4 (l : Launch) (Z : State) (a0 : Array Value) (hw : HW a0 Z) (p1 p2 : Int32) (q3 q4 : Int64) (p5 : Int32) (q6 q7 : Int64) (p8 p9 p10 : Int32) (a11 a12 a13 a15 : Addr) (k16 : ClassId) (a17 : Addr) (k18 : ClassId) (a19 : Addr) (k20 : ClassId) (p21 : Int32) (a22 a23 w25 : Addr) (k26 : ClassId) (h0 : Heap) (n0 : Nat) (OL0 : Old Z n0 h0) (pr1 : Fld Z h0 a13 s45 s48 "Z" vi0) (pr2 : Exa Z h0 a13 s45) (pr3 : Fld Z h0 a13 s45 "sets" s8 (.ref a15)) (pr4 : Asl Z h0 a15 k16 tV o12 p5 (.ref a12)) (pr5 : Fld Z h0 a12 s43 "lows" "[J" (.ref a17)) (pr6 : Arv Z h0 a17 k18 .long o1 [(.long q6)] lj0) (pr7 : Fld Z h0 a12 s43 "highs" "[J" (.ref a19)) (pr8 : Arv Z h0 a19 k20 .long o1 [(.long q7)] lj0) (pr9 : ¬ (q7 < q6)) (pr10 : Exa Z h0 a12 s43) (pr11 : Fld Z h0 a13 s45 s15 "Z" (.int p21)) (pr12 : n0 ≤ a13) (pr13 : a15 ≠ a13) (pr14 : n0 ≤ a15) (pr15 : Ovr Z k16 s43) (pr16 : Fld Z h0 a13 s45 s11 s5 (.ref a22)) (pr17 : a13 ≠ a15) (pr18 : Fld Z h0 a13 s45 s16 s5 (.ref a23)) (pr19 : a12 ≠ a13) (pr20 : a17 ≠ a13) (pr21 : a19 ≠ a13) (pr22 : Fld Z h0 a23 s26 s36 "I" vi0) (pr23 : Exa Z h0 a23 s27) (pr24 : n0 ≤ a23) (pr25 : Fld Z h0 a23 s27 s12 s7 (.ref w25)) (pr26 : Fld Z h0 a23 s27 "size" "I" vi0) (pr27 : Arv Z Z.heap w25 k26 (.object s20) o0 [] .null) (pr28 : Sta Z Z.heap s27 s1 s7 (.ref w25)) (pr29 : a13 ≠ a23) (pr30 : a15 ≠ a23) (pr31 : a12 ≠ a23) (pr32 : a17 ≠ a23) (pr33 : a19 ≠ a23)
    (st0 : ST Z p l e s m args below meth c T0 locs cells slots h0 n0) (hcl : cells + 10 ≤ 80) (hsl : slots + 27 ≤ 320) : SG p l e s m args below meth c T0 n0 150 (LV p1 p2 q3 q4 p5 q6 q7 p8 p9 p10 a11 a12 a13 uu uu uu) := by
  obtain ⟨hZ, hx, hy, hml, ho, hnm, hret, X0, e0, N0⟩ := st0
  have pre0 : ∀ t, SS p e below T0 m 150 (LV p1 p2 q3 q4 p5 q6 q7 p8 p9 p10 a11 a12 a13 uu uu uu) [] t → SS p e below T0 m 150 (LV p1 p2 q3 q4 p5 q6 q7 p8 p9 p10 a11 a12 a13 uu uu uu) [] t := fun _ k => k
  have pre14 : ∀ t, SS p e below T0 m 154 (LV p1 p2 q3 q4 p5 q6 q7 p8 p9 p10 a11 a12 a13 uu uu uu) [(.int (p1 &&& (16 : Int32)))] t → SS p e below T0 m 150 (LV p1 p2 q3 q4 p5 q6 q7 p8 p9 p10 a11 a12 a13 uu uu uu) [] t := by
    intro t kt
    refine pre0 _ ?_
    refine xiloadN X0 hx hy at_150 rfl ?_
    refine XS.bipush X0.here hx rfl (hb hy at_151) ?_
    refine XS.iand X0.here hx rfl (hb hy at_153) rfl ?_
    exact kt
  by_cases hf14 : (p1 &&& (16 : Int32)) = o0
  · obtain ⟨_, _, _, _, XX24, hk24, hN24, sg24⟩ := sg168_4 l Z a0 hw p1 p2 q3 q4 p5 q6 q7 p8 p9 p10 a11 a12 a13 a15 k16 a17 k18 a19 k20 p21 a22 a23 h0 n0 OL0 pr1 pr2 pr3 pr4 pr5 pr6 pr7 pr8 pr9 pr10 pr11 pr12 pr13 pr14 pr15 pr16 pr17 pr18 pr19 pr20 pr21 ⟨hZ, hx, hy, hml, ho, hnm, hret, X0, e0, N0⟩ (by show cells + 8 ≤ 80; omega) (by show slots + 14 ≤ 320; omega)
    refine ⟨_, _, _, _, XX24, hk24, hN24, fun fs hr => pre14 _ ?_⟩
    refine XS.ifYes X0.here hx rfl (pc0 := 154) (pc' := 168) rfl (hb hy at_154) rfl ((if0 _ _).trans (teq hf14).1) (by decide) (by decide) ?_
    exact sg24 fs hr
  · obtain ⟨_, T27, L27, X27, hQ27, st27⟩ := own_cV X0 hx hZ ho hml (cw21 hw) (rm40_0 l Z a0 hw a13 p8 a11 p10 a23 w25 k26 h0 n0 OL0 pr18 pr22 pr23 pr24 pr25 pr26 pr27 pr28) e0 pr2 165 (LV p1 p2 q3 q4 p5 q6 q7 p8 p9 p10 a11 a12 a13 uu uu uu) [(.int p8), (.ref a11), (.int p10)] [] 0 rfl (hb hy at_165) ⟨by decide, by decide, by show cells + 2 ≤ 80; omega, by show slots + 13 ≤ 320; omega⟩
    obtain ⟨b27_0, b27_1, kx27_0, rfl, Nq27, K27, u27_0, u27_1, u27_2, u27_3, u27_4, u27_5, u27_6, u27_7, u27_8, u27_9, u27_10, u27_11, u27_12⟩ := hQ27
    have OL27 := OL0.keep K27 (allS pr24 all0)
    have N27 := Fr.app N0 Nq27
    have fc29 := (pr1.keep K27 (ninS pr29 nin0))
    have fc30 := (pr2.keep K27)
    have fc31 := (pr3.keep K27 (ninS pr29 nin0))
    have fc32 := (pr4.keep K27 (ninS pr30 nin0))
    have fc33 := (pr5.keep K27 (ninS pr31 nin0))
    have fc34 := (pr6.keep K27 (ninS pr32 nin0))
    have fc35 := (pr7.keep K27 (ninS pr31 nin0))
    have fc36 := (pr8.keep K27 (ninS pr33 nin0))
    have fc37 := (pr10.keep K27)
    have fc38 := (pr11.keep K27 (ninS pr29 nin0))
    have fc39 := (pr16.keep K27 (ninS pr29 nin0))
    have fc40 := (pr18.keep K27 (ninS pr29 nin0))
    obtain ⟨_, _, _, _, XX28, hk28, hN28, sg28⟩ := sg168_4 l Z a0 hw p1 p2 q3 q4 p5 q6 q7 p8 p9 p10 a11 a12 a13 a15 k16 a17 k18 a19 k20 p21 a22 a23 T27.heap n0 OL27 fc29 fc30 fc31 fc32 fc33 fc34 fc35 fc36 pr9 fc37 fc38 pr12 pr13 pr14 pr15 fc39 pr17 fc40 pr19 pr20 pr21 ⟨hZ, hx, hy, hml, ho, hnm, hret, X27, rfl, N27⟩ (by show cells + 2 + 8 ≤ 80; omega) (by show slots + 13 + 14 ≤ 320; omega)
    refine ⟨_, _, _, _, XX28, hk28, hN28, fun fs hr => pre14 _ ?_⟩
    refine XS.ifNo X0.here hx rfl (hb hy at_154) rfl ((if0 _ _).trans (feq hf14).1) ?_
    refine xaload X0 hx hy at_157 rfl rfl ?_
    refine xiload X0 hx hy at_159 rfl ?_
    refine xaload X0 hx hy at_161 rfl rfl ?_
    refine xiload X0 hx hy at_163 rfl ?_
    refine st27 _ ?_
    exact sg28 fs hr
theorem sg136_4 (l : Launch) (Z : State) (a0 : Array Value) (hw : HW a0 Z) (p1 p2 : Int32) (q3 q4 : Int64) (p5 : Int32) (q6 q7 : Int64) (p8 p9 p10 : Int32) (a11 a12 a13 a15 : Addr) (k16 : ClassId) (a17 : Addr) (k18 : ClassId) (a19 : Addr) (k20 : ClassId) (p21 : Int32) (a22 a23 w24 : Addr) (k25 : ClassId) (h0 : Heap) (n0 : Nat) (OL0 : Old Z n0 h0) (pr1 : Fld Z h0 a13 s45 s48 "Z" vi0) (pr2 : Exa Z h0 a13 s45) (pr3 : Fld Z h0 a13 s45 "sets" s8 (.ref a15)) (pr4 : Asl Z h0 a15 k16 tV o12 p5 (.ref a12)) (pr5 : Fld Z h0 a12 s43 "lows" "[J" (.ref a17)) (pr6 : Arv Z h0 a17 k18 .long o1 [(.long q6)] lj0) (pr7 : Fld Z h0 a12 s43 "highs" "[J" (.ref a19)) (pr8 : Arv Z h0 a19 k20 .long o1 [(.long q7)] lj0) (pr9 : ¬ (q7 < q6)) (pr10 : Exa Z h0 a12 s43) (pr11 : Fld Z h0 a13 s45 s15 "Z" (.int p21)) (pr12 : n0 ≤ a13) (pr13 : a15 ≠ a13) (pr14 : n0 ≤ a15) (pr15 : Ovr Z k16 s43) (pr16 : Fld Z h0 a13 s45 s11 s5 (.ref a22)) (pr17 : a13 ≠ a15) (pr18 : Fld Z h0 a13 s45 s16 s5 (.ref a23)) (pr19 : a12 ≠ a13) (pr20 : a17 ≠ a13) (pr21 : a19 ≠ a13) (pr22 : Fld Z h0 a23 s26 s36 "I" vi0) (pr23 : Exa Z h0 a23 s27) (pr24 : n0 ≤ a23) (pr25 : Fld Z h0 a23 s27 s12 s7 (.ref w24)) (pr26 : Fld Z h0 a23 s27 "size" "I" vi0) (pr27 : Arv Z Z.heap w24 k25 (.object s20) o0 [] .null) (pr28 : Sta Z Z.heap s27 s1 s7 (.ref w24)) (pr29 : a13 ≠ a23) (pr30 : a15 ≠ a23) (pr31 : a12 ≠ a23) (pr32 : a17 ≠ a23) (pr33 : a19 ≠ a23) (pr34 : Fld Z h0 a22 s26 s36 "I" vi0) (pr35 : Exa Z h0 a22 s27) (pr36 : n0 ≤ a22) (pr37 : Fld Z h0 a22 s27 s12 s7 (.ref w24)) (pr38 : Fld Z h0 a22 s27 "size" "I" vi0) (pr39 : a13 ≠ a22) (pr40 : a15 ≠ a22) (pr41 : a12 ≠ a22) (pr42 : a17 ≠ a22) (pr43 : a19 ≠ a22) (pr44 : a23 ≠ a22)
    (st0 : ST Z p l e s m args below meth c T0 locs cells slots h0 n0) (hcl : cells + 11 ≤ 80) (hsl : slots + 37 ≤ 320) : SG p l e s m args below meth c T0 n0 136 (LV p1 p2 q3 q4 p5 q6 q7 p8 p9 p10 a11 a12 a13 uu uu uu) := by
  obtain ⟨hZ, hx, hy, hml, ho, hnm, hret, X0, e0, N0⟩ := st0
  have pre0 : ∀ t, SS p e below T0 m 136 (LV p1 p2 q3 q4 p5 q6 q7 p8 p9 p10 a11 a12 a13 uu uu uu) [] t → SS p e below T0 m 136 (LV p1 p2 q3 q4 p5 q6 q7 p8 p9 p10 a11 a12 a13 uu uu uu) [] t := fun _ k => k
  have pre14 : ∀ t, SS p e below T0 m 140 (LV p1 p2 q3 q4 p5 q6 q7 p8 p9 p10 a11 a12 a13 uu uu uu) [(.int (p1 &&& (8 : Int32)))] t → SS p e below T0 m 136 (LV p1 p2 q3 q4 p5 q6 q7 p8 p9 p10 a11 a12 a13 uu uu uu) [] t := by
    intro t kt
    refine pre0 _ ?_
    refine xiloadN X0 hx hy at_136 rfl ?_
    refine XS.bipush X0.here hx rfl (hb hy at_137) ?_
    refine XS.iand X0.here hx rfl (hb hy at_139) rfl ?_
    exact kt
  by_cases hf14 : (p1 &&& (8 : Int32)) = o0
  · obtain ⟨_, _, _, _, XX26, hk26, hN26, sg26⟩ := sg150_4 l Z a0 hw p1 p2 q3 q4 p5 q6 q7 p8 p9 p10 a11 a12 a13 a15 k16 a17 k18 a19 k20 p21 a22 a23 w24 k25 h0 n0 OL0 pr1 pr2 pr3 pr4 pr5 pr6 pr7 pr8 pr9 pr10 pr11 pr12 pr13 pr14 pr15 pr16 pr17 pr18 pr19 pr20 pr21 pr22 pr23 pr24 pr25 pr26 pr27 pr28 pr29 pr30 pr31 pr32 pr33 ⟨hZ, hx, hy, hml, ho, hnm, hret, X0, e0, N0⟩ (by show cells + 10 ≤ 80; omega) (by show slots + 27 ≤ 320; omega)
    refine ⟨_, _, _, _, XX26, hk26, hN26, fun fs hr => pre14 _ ?_⟩
    refine XS.ifYes X0.here hx rfl (pc0 := 140) (pc' := 150) rfl (hb hy at_140) rfl ((if0 _ _).trans (teq hf14).1) (by decide) (by decide) ?_
    exact sg26 fs hr
  · obtain ⟨_, T27, L27, X27, hQ27, st27⟩ := own_cV X0 hx hZ ho hml (cw22 hw) (rm30_0 l Z a0 hw a13 a12 a22 w24 k25 h0 n0 OL0 pr16 pr34 pr35 pr36 pr37 pr38 pr27 pr28 pr10) e0 pr2 147 (LV p1 p2 q3 q4 p5 q6 q7 p8 p9 p10 a11 a12 a13 uu uu uu) [(.ref a12)] [] 0 rfl (hb hy at_147) ⟨by decide, by decide, by show cells + 1 ≤ 80; omega, by show slots + 10 ≤ 320; omega⟩
    obtain ⟨b27_0, kx27_0, rfl, Nq27, K27, u27_0, u27_1, u27_2, u27_3, u27_4, u27_5, u27_6⟩ := hQ27
    have OL27 := OL0.keep K27 (allS pr36 all0)
    have N27 := Fr.app N0 Nq27
    have fc29 := (pr1.keep K27 (ninS pr39 nin0))
    have fc30 := (pr2.keep K27)
    have fc31 := (pr3.keep K27 (ninS pr39 nin0))
    have fc32 := (pr4.keep K27 (ninS pr40 nin0))
    have fc33 := (pr5.keep K27 (ninS pr41 nin0))
    have fc34 := (pr6.keep K27 (ninS pr42 nin0))
    have fc35 := (pr7.keep K27 (ninS pr41 nin0))
    have fc36 := (pr8.keep K27 (ninS pr43 nin0))
    have fc37 := (pr10.keep K27)
    have fc38 := (pr11.keep K27 (ninS pr39 nin0))
    have fc39 := (pr16.keep K27 (ninS pr39 nin0))
    have fc40 := (pr18.keep K27 (ninS pr39 nin0))
    have fc41 := (pr22.keep K27 (ninS pr44 nin0))
    have fc42 := (pr23.keep K27)
    have fc43 := (pr25.keep K27 (ninS pr44 nin0))
    have fc44 := (pr26.keep K27 (ninS pr44 nin0))
    obtain ⟨_, _, _, _, XX28, hk28, hN28, sg28⟩ := sg150_4 l Z a0 hw p1 p2 q3 q4 p5 q6 q7 p8 p9 p10 a11 a12 a13 a15 k16 a17 k18 a19 k20 p21 a22 a23 w24 k25 T27.heap n0 OL27 fc29 fc30 fc31 fc32 fc33 fc34 fc35 fc36 pr9 fc37 fc38 pr12 pr13 pr14 pr15 fc39 pr17 fc40 pr19 pr20 pr21 fc41 fc42 pr24 fc43 fc44 pr27 pr28 pr29 pr30 pr31 pr32 pr33 ⟨hZ, hx, hy, hml, ho, hnm, hret, X27, rfl, N27⟩ (by show cells + 1 + 10 ≤ 80; omega) (by show slots + 10 + 27 ≤ 320; omega)
    refine ⟨_, _, _, _, XX28, hk28, hN28, fun fs hr => pre14 _ ?_⟩
    refine XS.ifNo X0.here hx rfl (hb hy at_140) rfl ((if0 _ _).trans (feq hf14).1) ?_
    refine xaload X0 hx hy at_143 rfl rfl ?_
    refine xaload X0 hx hy at_145 rfl rfl ?_
    refine st27 _ ?_
    exact sg28 fs hr
theorem sg125_4 (l : Launch) (Z : State) (a0 : Array Value) (hw : HW a0 Z) (p1 p2 : Int32) (q3 q4 : Int64) (p5 : Int32) (q6 q7 : Int64) (p8 p9 p10 : Int32) (a11 a12 a13 a15 : Addr) (k16 : ClassId) (a17 : Addr) (k18 : ClassId) (a19 : Addr) (k20 : ClassId) (p21 : Int32) (a22 a23 w24 : Addr) (k25 : ClassId) (h0 : Heap) (n0 : Nat) (OL0 : Old Z n0 h0) (pr1 : Fld Z h0 a13 s45 s48 "Z" vi0) (pr2 : Exa Z h0 a13 s45) (pr3 : Fld Z h0 a13 s45 "sets" s8 (.ref a15)) (pr4 : Asl Z h0 a15 k16 tV o12 p5 (.ref a12)) (pr5 : Fld Z h0 a12 s43 "lows" "[J" (.ref a17)) (pr6 : Arv Z h0 a17 k18 .long o1 [(.long q6)] lj0) (pr7 : Fld Z h0 a12 s43 "highs" "[J" (.ref a19)) (pr8 : Arv Z h0 a19 k20 .long o1 [(.long q7)] lj0) (pr9 : ¬ (q7 < q6)) (pr10 : Exa Z h0 a12 s43) (pr11 : Fld Z h0 a13 s45 s15 "Z" (.int p21)) (pr12 : n0 ≤ a13) (pr13 : a15 ≠ a13) (pr14 : n0 ≤ a15) (pr15 : Ovr Z k16 s43) (pr16 : Fld Z h0 a13 s45 s11 s5 (.ref a22)) (pr17 : a13 ≠ a15) (pr18 : Fld Z h0 a13 s45 s16 s5 (.ref a23)) (pr19 : a12 ≠ a13) (pr20 : a17 ≠ a13) (pr21 : a19 ≠ a13) (pr22 : Fld Z h0 a23 s26 s36 "I" vi0) (pr23 : Exa Z h0 a23 s27) (pr24 : n0 ≤ a23) (pr25 : Fld Z h0 a23 s27 s12 s7 (.ref w24)) (pr26 : Fld Z h0 a23 s27 "size" "I" vi0) (pr27 : Arv Z Z.heap w24 k25 (.object s20) o0 [] .null) (pr28 : Sta Z Z.heap s27 s1 s7 (.ref w24)) (pr29 : a13 ≠ a23) (pr30 : a15 ≠ a23) (pr31 : a12 ≠ a23) (pr32 : a17 ≠ a23) (pr33 : a19 ≠ a23) (pr34 : Fld Z h0 a22 s26 s36 "I" vi0) (pr35 : Exa Z h0 a22 s27) (pr36 : n0 ≤ a22) (pr37 : Fld Z h0 a22 s27 s12 s7 (.ref w24)) (pr38 : Fld Z h0 a22 s27 "size" "I" vi0) (pr39 : a13 ≠ a22) (pr40 : a15 ≠ a22) (pr41 : a12 ≠ a22) (pr42 : a17 ≠ a22) (pr43 : a19 ≠ a22) (pr44 : a23 ≠ a22) (pr45 : a23 ≠ a13) (pr46 : a22 ≠ a13)
    (st0 : ST Z p l e s m args below meth c T0 locs cells slots h0 n0) (hcl : cells + 11 ≤ 80) (hsl : slots + 37 ≤ 320) : SG p l e s m args below meth c T0 n0 125 (LV p1 p2 q3 q4 p5 q6 q7 p8 p9 p10 a11 a12 a13 uu uu uu) := by
  obtain ⟨hZ, hx, hy, hml, ho, hnm, hret, X0, e0, N0⟩ := st0
  have pre0 : ∀ t, SS p e below T0 m 125 (LV p1 p2 q3 q4 p5 q6 q7 p8 p9 p10 a11 a12 a13 uu uu uu) [] t → SS p e below T0 m 125 (LV p1 p2 q3 q4 p5 q6 q7 p8 p9 p10 a11 a12 a13 uu uu uu) [] t := fun _ k => k
  have pre14 : ∀ t, SS p e below T0 m 128 (LV p1 p2 q3 q4 p5 q6 q7 p8 p9 p10 a11 a12 a13 uu uu uu) [(.int (p1 &&& (4 : Int32)))] t → SS p e below T0 m 125 (LV p1 p2 q3 q4 p5 q6 q7 p8 p9 p10 a11 a12 a13 uu uu uu) [] t := by
    intro t kt
    refine pre0 _ ?_
    refine xiloadN X0 hx hy at_125 rfl ?_
    refine XS.iconst X0.here hx rfl (hb hy at_126) ?_
    refine XS.iand X0.here hx rfl (hb hy at_127) rfl ?_
    exact kt
  by_cases hf14 : (p1 &&& (4 : Int32)) = o0
  · obtain ⟨_, _, _, _, XX26, hk26, hN26, sg26⟩ := sg136_4 l Z a0 hw p1 p2 q3 q4 p5 q6 q7 p8 p9 p10 a11 a12 a13 a15 k16 a17 k18 a19 k20 p21 a22 a23 w24 k25 h0 n0 OL0 pr1 pr2 pr3 pr4 pr5 pr6 pr7 pr8 pr9 pr10 pr11 pr12 pr13 pr14 pr15 pr16 pr17 pr18 pr19 pr20 pr21 pr22 pr23 pr24 pr25 pr26 pr27 pr28 pr29 pr30 pr31 pr32 pr33 pr34 pr35 pr36 pr37 pr38 pr39 pr40 pr41 pr42 pr43 pr44 ⟨hZ, hx, hy, hml, ho, hnm, hret, X0, e0, N0⟩ (by show cells + 11 ≤ 80; omega) (by show slots + 37 ≤ 320; omega)
    refine ⟨_, _, _, _, XX26, hk26, hN26, fun fs hr => pre14 _ ?_⟩
    refine XS.ifYes X0.here hx rfl (pc0 := 128) (pc' := 136) rfl (hb hy at_128) rfl ((if0 _ _).trans (teq hf14).1) (by decide) (by decide) ?_
    exact sg26 fs hr
  · obtain ⟨_, T27, L27, X27, hQ27, st27⟩ := own_cV X0 hx hZ ho hml (cw23 hw) (rm44_0 l Z a0 hw a13 p21 a22 a23 a15 h0 n0 OL0 pr2 pr11 pr12 pr16 pr18 pr3 pr1) e0 pr2 133 (LV p1 p2 q3 q4 p5 q6 q7 p8 p9 p10 a11 a12 a13 uu uu uu) [] [] 0 rfl (hb hy at_133) ⟨by decide, by decide, by show cells + 0 ≤ 80; omega, by show slots + 0 ≤ 320; omega⟩
    obtain ⟨rfl, Nq27, K27, u27_0, u27_1, u27_2, u27_3, u27_4⟩ := hQ27
    have OL27 := OL0.keep K27 (allS pr12 all0)
    have N27 := Fr.app N0 Nq27
    have fc29 := (pr2.keep K27)
    have fc30 := (pr4.keep K27 (ninS pr13 nin0))
    have fc31 := (pr5.keep K27 (ninS pr19 nin0))
    have fc32 := (pr6.keep K27 (ninS pr20 nin0))
    have fc33 := (pr7.keep K27 (ninS pr19 nin0))
    have fc34 := (pr8.keep K27 (ninS pr21 nin0))
    have fc35 := (pr10.keep K27)
    have fc36 := (pr22.keep K27 (ninS pr45 nin0))
    have fc37 := (pr23.keep K27)
    have fc38 := (pr25.keep K27 (ninS pr45 nin0))
    have fc39 := (pr26.keep K27 (ninS pr45 nin0))
    have fc40 := (pr34.keep K27 (ninS pr46 nin0))
    have fc41 := (pr35.keep K27)
    have fc42 := (pr37.keep K27 (ninS pr46 nin0))
    have fc43 := (pr38.keep K27 (ninS pr46 nin0))
    obtain ⟨_, _, _, _, XX28, hk28, hN28, sg28⟩ := sg136_4 l Z a0 hw p1 p2 q3 q4 p5 q6 q7 p8 p9 p10 a11 a12 a13 a15 k16 a17 k18 a19 k20 o1 a22 a23 w24 k25 T27.heap n0 OL27 u27_4 fc29 u27_3 fc30 fc31 fc32 fc33 fc34 pr9 fc35 u27_0 pr12 pr13 pr14 pr15 u27_1 pr17 u27_2 pr19 pr20 pr21 fc36 fc37 pr24 fc38 fc39 pr27 pr28 pr29 pr30 pr31 pr32 pr33 fc40 fc41 pr36 fc42 fc43 pr39 pr40 pr41 pr42 pr43 pr44 ⟨hZ, hx, hy, hml, ho, hnm, hret, X27, rfl, N27⟩ (by show cells + 0 + 11 ≤ 80; omega) (by show slots + 0 + 37 ≤ 320; omega)
    refine ⟨_, _, _, _, XX28, hk28, hN28, fun fs hr => pre14 _ ?_⟩
    refine XS.ifNo X0.here hx rfl (hb hy at_128) rfl ((if0 _ _).trans (feq hf14).1) ?_
    refine xaload X0 hx hy at_131 rfl rfl ?_
    refine st27 _ ?_
    exact sg28 fs hr
theorem rm28_1 (l : Launch) (Z : State) (a0 : Array Value) (hw : HW a0 Z) (a1 : Addr) (p2 : Int32) (a3 a4 a5 : Addr) (k6 : ClassId) (a7 : Addr) (q8 : Int64) (k9 : ClassId) (a10 : Addr) (q11 : Int64) (k12 : ClassId) (a13 : Addr) (q14 : Int64) (k15 : ClassId) (a16 : Addr) (q17 : Int64) (k18 : ClassId) (w19 : Addr) (p20 : Int32) (a21 a22 : Addr) (p23 : Int32) (h0 : Heap) (n0 : Nat) (OL0 : Old Z n0 h0) (pr1 : Fld Z h0 a1 s45 "sets" s8 (.ref a4)) (pr2 : Asl Z h0 a4 k6 tV o12 p2 (.ref a5)) (pr3 : Fld Z h0 a5 s43 "lows" "[J" (.ref a7)) (pr4 : Arv Z h0 a7 k9 .long o1 [(.long q8)] lj0) (pr5 : Fld Z h0 a3 s43 "lows" "[J" (.ref a10)) (pr6 : Arv Z h0 a10 k12 .long o1 [(.long q11)] lj0) (pr7 : Fld Z h0 a5 s43 "highs" "[J" (.ref a13)) (pr8 : Arv Z h0 a13 k15 .long o1 [(.long q14)] lj0) (pr9 : Fld Z h0 a3 s43 "highs" "[J" (.ref a16)) (pr10 : Arv Z h0 a16 k18 .long o1 [(.long q17)] lj0) (pr11 : (own_jmin q14 q17) < (own_jmax q8 q11)) (pr12 : ¬ (q14 < q17)) (pr13 : Sta Z Z.heap s32 "EMPTY" s6 (.ref w19)) (pr14 : Exa Z h0 a5 s43) (pr15 : Fld Z h0 a1 s45 s15 "Z" (.int p20)) (pr16 : Fld Z Z.heap w19 s32 "value" s3 .null) (pr17 : Exa Z Z.heap w19 s32) (pr18 : Exa Z h0 a1 s45) (pr19 : n0 ≤ a1) (pr20 : Fld Z h0 a1 s45 s11 s5 (.ref a21)) (pr21 : Fld Z h0 a1 s45 s16 s5 (.ref a22)) (pr22 : Fld Z h0 a1 s45 s48 "Z" (.int p23)) :
    MF l Z mn28 prog_66_method_13_code 3 none ⟨4, 4, 9, 3090⟩ #[(.ref a1), (.int p2), (.ref a3)] h0 (fun v h L => v = none ∧ Fr n0 L ∧ Keep h0 h [a1] ∧ Fld Z h a1 s45 "sets" s8 (.ref a4) ∧ Fld Z h a1 s45 s15 "Z" (.int (nar .boolean (p20 ||| o1))) ∧ Fld Z h a1 s45 s11 s5 (.ref a21) ∧ Fld Z h a1 s45 s16 s5 (.ref a22) ∧ Fld Z h a1 s45 s48 "Z" (.int p23)) := by
  refine own_start (plainFor_of_name pn_7) (fun m => (ef_28_37 m a1 p2 a3)) ?_
  intro p e s m below meth c s₁ hZ hx hy hml ho hnm hret X0 e0
  have N0 := Fr.nil n0
  obtain ⟨_, T24, L24, X24, hQ24, st24⟩ := own_cV X0 hx hZ ho hml (cw38 hw) (rm29_2 l Z a0 hw a1 p2 a3 a4 a5 k6 a7 q8 k9 a10 q11 k12 a13 q14 k15 a16 q17 k18 w19 p20 a21 a22 p23 h0 n0 OL0 pr1 pr2 pr3 pr4 pr5 pr6 pr7 pr8 pr9 pr10 pr11 pr12 pr13 pr14 pr15 pr16 pr17 pr18 pr19 pr20 pr21 pr22) e0 pr18 3 #[rv a1, iv p2, rv a3] [(.int p2), (.ref a3)] [] 0 rfl (hb hy d28_3) (by decide)
  obtain ⟨rfl, Nq24, K24, u24_0, u24_1, u24_2, u24_3, u24_4⟩ := hQ24
  have KK24 : Keep h0 T24.heap [a1] := (Keep.refl h0 [a1]).trans K24 (allS (Or.inl (List.mem_of_getElem? (i := 0) rfl)) all0)
  have N24 := Fr.app N0 Nq24
  refine ⟨none, _, _, _, _, _, X24, rfl, by decide, fun _ => rfl, fun fs hr => ?_, ?_⟩
  · refine xaloadN X0 hx hy d28_0 rfl rfl ?_
    refine xiloadN X0 hx hy d28_1 rfl ?_
    refine xaloadN X0 hx hy d28_2 rfl rfl ?_
    refine st24 _ ?_
    show SS p e below T24 m 6 #[rv a1, iv p2, rv a3] [] _
    exact X24.returnOut hx hret (hb hy d28_6) hr
  · exact ⟨rfl, N24, KK24, u24_0, u24_1, u24_2, u24_3, u24_4⟩
theorem rm27_3 (l : Launch) (Z : State) (a0 : Array Value) (hw : HW a0 Z) (a1 a2 a3 a6 : Addr) (p7 : Int32) (a8 a9 : Addr) (k10 : ClassId) (a11 : Addr) (q12 : Int64) (k13 : ClassId) (a14 : Addr) (q15 : Int64) (k16 : ClassId) (a17 : Addr) (q18 : Int64) (k19 : ClassId) (a20 : Addr) (q21 : Int64) (k22 : ClassId) (w23 : Addr) (p24 : Int32) (a25 a26 : Addr) (p27 : Int32) (h0 : Heap) (n0 : Nat) (OL0 : Old Z n0 h0) (pr1 : Fld Z h0 a1 s32 "value" s3 (.ref a3)) (pr2 : LamF Z h0 a2 (sgm s34) a6 p7) (pr3 : Fld Z h0 a6 s45 "sets" s8 (.ref a8)) (pr4 : Asl Z h0 a8 k10 tV o12 p7 (.ref a9)) (pr5 : Fld Z h0 a9 s43 "lows" "[J" (.ref a11)) (pr6 : Arv Z h0 a11 k13 .long o1 [(.long q12)] lj0) (pr7 : Fld Z h0 a3 s43 "lows" "[J" (.ref a14)) (pr8 : Arv Z h0 a14 k16 .long o1 [(.long q15)] lj0) (pr9 : Fld Z h0 a9 s43 "highs" "[J" (.ref a17)) (pr10 : Arv Z h0 a17 k19 .long o1 [(.long q18)] lj0) (pr11 : Fld Z h0 a3 s43 "highs" "[J" (.ref a20)) (pr12 : Arv Z h0 a20 k22 .long o1 [(.long q21)] lj0) (pr13 : (own_jmin q18 q21) < (own_jmax q12 q15)) (pr14 : ¬ (q18 < q21)) (pr15 : Sta Z Z.heap s32 "EMPTY" s6 (.ref w23)) (pr16 : Exa Z h0 a9 s43) (pr17 : Fld Z h0 a6 s45 s15 "Z" (.int p24)) (pr18 : Fld Z Z.heap w23 s32 "value" s3 .null) (pr19 : Exa Z Z.heap w23 s32) (pr20 : Exa Z h0 a6 s45) (pr21 : n0 ≤ a6) (pr22 : Fld Z h0 a6 s45 s11 s5 (.ref a25)) (pr23 : Fld Z h0 a6 s45 s16 s5 (.ref a26)) (pr24 : Fld Z h0 a6 s45 s48 "Z" (.int p27)) (pr25 : Exa Z h0 a3 s43) :
    MF l Z mn27 jdk_32_method_8_code 2 none ⟨6, 4, 9, 3117⟩ #[(.ref a1), (.ref a2)] h0 (fun v h L => v = none ∧ Fr n0 L ∧ Keep h0 h [a6] ∧ Fld Z h a6 s45 "sets" s8 (.ref a8) ∧ Fld Z h a6 s45 s15 "Z" (.int (nar .boolean (p24 ||| o1))) ∧ Fld Z h a6 s45 s11 s5 (.ref a25) ∧ Fld Z h a6 s45 s16 s5 (.ref a26) ∧ Fld Z h a6 s45 s48 "Z" (.int p27)) := by
  refine own_start (plainFor_of_name pn_14) (fun m => (ef_27_38 m a1 a2)) ?_
  intro p e s m below meth c s₁ hZ hx hy hml ho hnm hret X0 e0
  have N0 := Fr.nil n0
  obtain ⟨T4, X4, e4, st4⟩ := gF X0 hx hZ ho (wd188 hw) Via.refl e0 pr1 1 #[rv a1, rv a2] [] (hb hy d27_1)
  obtain ⟨T5, X5, e5, st5⟩ := gF X4 hx hZ ho (wd188 hw) Via.refl e4 pr1 9 #[rv a1, rv a2] [(.ref a2)] (hb hy d27_9)
  obtain ⟨_, T28, L28, X28, hQ28, st28⟩ := own_cL X5 hx hZ ho hml (cl1 hw) (rm28_1 l Z a0 hw a6 p7 a3 a8 a9 k10 a11 q12 k13 a14 q15 k16 a17 q18 k19 a20 q21 k22 w23 p24 a25 a26 p27 h0 n0 OL0 pr3 pr4 pr5 pr6 pr7 pr8 pr9 pr10 pr11 pr12 pr13 pr14 pr15 pr16 pr17 pr18 pr19 pr20 pr21 pr22 pr23 pr24) e5 pr2 pr20 pr25 12 #[rv a1, rv a2] [] 0 rfl (hb hy d27_12) (by decide) (by rintro _ _ _ ⟨q, -⟩; exact q)
  obtain ⟨rfl, Nq28, K28, u28_0, u28_1, u28_2, u28_3, u28_4⟩ := hQ28
  have KK28 : Keep h0 T28.heap [a6] := (Keep.refl h0 [a6]).trans K28 (allS (Or.inl (List.mem_of_getElem? (i := 0) rfl)) all0)
  have N28 := Fr.app N0 Nq28
  refine ⟨none, _, _, _, _, _, X28, rfl, by decide, fun _ => rfl, fun fs hr => ?_, ?_⟩
  · refine xaloadN X0 hx hy d27_0 rfl rfl ?_
    refine st4 _ ?_
    refine XS.ifnullNo X4.here hx rfl (hb hy d27_4) rfl ?_
    refine xaloadN X4 hx hy d27_7 rfl rfl ?_
    refine xaloadN X4 hx hy d27_8 rfl rfl ?_
    refine st5 _ ?_
    refine st28 _ ?_
    show SS p e below T28 m 17 #[rv a1, rv a2] [] _
    exact X28.returnOut hx hret (hb hy d27_17) hr
  · exact ⟨rfl, N28, KK28, u28_0, u28_1, u28_2, u28_3, u28_4⟩
theorem rm14_5 (l : Launch) (Z : State) (a0 : Array Value) (hw : HW a0 Z) (a1 : Addr) (p2 : Int32) (a3 w4 w6 w7 : Addr) (k8 : ClassId) (q11 : Int64) (a13 : Addr) (q14 : Int64) (k15 : ClassId) (a16 : Addr) (q17 : Int64) (k18 : ClassId) (p24 : Int32) (a31 : Addr) (k32 : ClassId) (w33 a34 a35 : Addr) (p36 : Int32) (h0 : Heap) (n0 : Nat) (OL0 : Old Z n0 h0) (pr1 : Sta Z Z.heap s45 s2 s5 (.ref w4)) (pr2 : Fld Z Z.heap w4 s29 s13 s7 (.ref w6)) (pr3 : Asl Z Z.heap w6 k8 (.object s20) o12 p2 (.ref w7)) (pr4 : Exa Z Z.heap w4 s29) (pr5 : Exa Z Z.heap w7 s42) (pr6 : Fld Z Z.heap w7 s42 "low" "J" lj0) (pr7 : Fld Z Z.heap w7 s42 "high" "J" (.long q11)) (pr8 : ¬ (q11 < oj0)) (pr9 : ¬ ((281474976710656 : Int64) < q11)) (pr10 : Fld Z h0 a3 s43 "lows" "[J" (.ref a13)) (pr11 : Arv Z h0 a13 k15 .long o1 [(.long q14)] lj0) (pr12 : Fld Z h0 a3 s43 "highs" "[J" (.ref a16)) (pr13 : Arv Z h0 a16 k18 .long o1 [(.long q17)] lj0) (pr14 : ¬ (q17 < oj0)) (pr15 : q11 < q14) (pr16 : Fld Z h0 a1 s45 s15 "Z" (.int p24)) (pr17 : Exa Z h0 a1 s45) (pr18 : n0 ≤ a1) (pr19 : Fld Z h0 a1 s45 "sets" s8 (.ref a31)) (pr20 : Asl Z h0 a31 k32 tV o12 p2 (.ref a3)) (pr21 : a31 ≠ a1) (pr22 : a3 ≠ a1) (pr23 : a13 ≠ a1) (pr24 : a16 ≠ a1) (pr25 : (own_jmin q17 q11) < (own_jmax q14 oj0)) (pr26 : ¬ (q17 < q11)) (pr27 : Sta Z Z.heap s32 "EMPTY" s6 (.ref w33)) (pr28 : Exa Z h0 a3 s43) (pr29 : Fld Z Z.heap w33 s32 "value" s3 .null) (pr30 : Exa Z Z.heap w33 s32) (pr31 : Fld Z h0 a1 s45 s11 s5 (.ref a34)) (pr32 : Fld Z h0 a1 s45 s16 s5 (.ref a35)) (pr33 : Fld Z h0 a1 s45 s48 "Z" (.int p36)) :
    MF l Z mn14 prog_66_method_6_code 4 none ⟨7, 15, 27, 3130⟩ #[(.ref a1), (.int p2), (.ref a3)] h0 (fun v h L => v = none ∧ Fr n0 L ∧ Keep h0 h [a1] ∧ Fld Z h a1 s45 s15 "Z" (.int (nar .boolean ((nar .boolean (p24 ||| o0)) ||| o1))) ∧ Fld Z h a1 s45 "sets" s8 (.ref a31) ∧ Fld Z h a1 s45 s11 s5 (.ref a34) ∧ Fld Z h a1 s45 s16 s5 (.ref a35) ∧ Fld Z h a1 s45 s48 "Z" (.int p36)) := by
  refine own_startN (plainFor_of_name pn_7) (fun m => (ef_14_39 m a1 p2 a3)) ?_
  intro p e s m below meth c s₁ hZ hx hy hml ho hnm hnamed hret X0 e0
  have N0 := Fr.nil n0
  obtain ⟨T5, X5, e5, st5⟩ := getS2 X0 hx hZ ho (host := "") (Or.inl (wd52 hw)) Via.refl e0 (pr1.ext OL0.2) (g := (mkF m 0 #[rv a1, iv p2, rv a3, uu] [])) rfl (hb hy d14_0)
  obtain ⟨_, T9, L9, X9, hQ9, st9⟩ := own_cI X5 hx hZ ho hml (cw24 hw) (rm15_0 l Z a0 hw w4 p2 w6 w7 k8 h0 n0 OL0 pr2 pr3) e5 (pr4.ext OL0.2) 4 #[rv a1, iv p2, rv a3, uu] [(.int p2)] [] 0 rfl (hb hy d14_4) (by decide)
  obtain ⟨rfl, Nq9, ec9⟩ := hQ9
  have N9 := Fr.app N0 Nq9
  obtain ⟨T10, X10, e10, st10⟩ := castY X9 hx hZ ho (wd118 hw) ec9 (Ins.self (pr5.ext OL0.2)) (g := (mkF m 9 #[rv a1, iv p2, rv a3, uu] [(.ref w7)])) rfl rfl (hb hy d14_9)
  obtain ⟨_, T12, L12, X12, hQ12, st12⟩ := own_cV X10 hx hZ ho hml (cw26 hw) (rm16_0 l Z a0 hw w7 q11 h0 n0 OL0 pr6 pr7 pr8 pr9) e10 (pr5.ext OL0.2) 12 #[rv a1, iv p2, rv a3, uu] [] [] 0 rfl (hb hy d14_12) (by decide)
  obtain ⟨b12_0, b12_1, b12_2, kx12_0, kx12_1, rfl, Nq12, K12, u12_0, u12_1, u12_2, u12_3, u12_4, u12_5, u12_6, u12_7, u12_8, u12_9, u12_10, u12_11, u12_12⟩ := hQ12
  have KK12 : Keep h0 T12.heap [a1] := (Keep.refl h0 [a1]).trans K12 all0
  have OL12 := OL0.keep K12 all0
  have N12 := Fr.app N9 Nq12
  have fc20 := (pr10.keep K12 nin0)
  have fc21 := (pr11.keep K12 nin0)
  have fc22 := (pr12.keep K12 nin0)
  have fc23 := (pr13.keep K12 nin0)
  obtain ⟨_, T19, L19, X19, hQ19, st19⟩ := own_cV X12 hx hZ ho hml (cw36 hw) (rm17_0 l Z a0 hw b12_0 a3 b12_1 oj0 kx12_0 a13 q14 k15 a16 q17 k18 b12_2 q11 kx12_1 T12.heap n0 OL12 u12_7 u12_9 fc20 fc21 fc22 fc23 pr14 u12_8 u12_11 pr15 pr8) rfl u12_6 16 #[rv a1, iv p2, rv a3, uu] [(.ref a3)] [] 0 rfl (hb hy d14_16) (by decide)
  obtain ⟨b19_0, b19_1, b19_2, b19_3, kx19_0, kx19_1, rfl, Nq19, K19, u19_0, u19_1, u19_2, u19_3, u19_4, u19_5, u19_6, u19_7, u19_8, u19_9, u19_10, u19_11, u19_12, u19_13, u19_14, u19_15, u19_16, u19_17, u19_18⟩ := hQ19
  have KK19 : Keep h0 T19.heap [a1] := KK12.trans K19 all0
  have OL19 := OL12.keep K19 all0
  have sz_b19_0 : h0.size ≤ b19_0 := Nat.le_trans KK12.1 u19_0
  have sz_b19_1 : h0.size ≤ b19_1 := Nat.le_trans KK12.1 u19_1
  have sz_b19_2 : h0.size ≤ b19_2 := Nat.le_trans KK12.1 u19_2
  have sz_b19_3 : h0.size ≤ b19_3 := Nat.le_trans KK12.1 u19_3
  have N19 := Fr.app N12 Nq19
  have fc25 := ((pr16.keep K12 nin0).keep K19 nin0)
  obtain ⟨T26, X26, e26, st26⟩ := gF X19 hx hZ ho (wd190 hw) Via.refl rfl fc25 22 #[rv a1, iv p2, rv a3, rv b19_0] [(.ref a1)] (hb hy d14_22)
  obtain ⟨_, T27, L27, X27, hQ27, st27⟩ := own_cV X26 hx hZ ho hml (cw37 hw) (rm26_0 l Z a0 hw b19_0 b19_1 T19.heap n0 OL19 u19_11) e26 u19_10 26 #[rv a1, iv p2, rv a3, rv b19_0] [] [(.int p24), (.ref a1)] 2 rfl (hb hy d14_26) (by decide)
  obtain ⟨rfl, Nq27, ec27⟩ := hQ27
  have N27 := Fr.app N19 Nq27
  have fc28 := ((pr17.keep K12).keep K19)
  obtain ⟨T29, h29, X29, e29, W29, st29⟩ := putFN X27 hx hZ ho (wd190 hw) Via.refl ec27 fc25 fc28 (Or.inl (wd191 hw)) (wd46 hw) (ty := .boolean) (v' := (.int (nar .boolean (p24 ||| o0)))) (by decide) rfl (fits_nar_bool _) (g := (mkF m 30 #[rv a1, iv p2, rv a3, rv b19_0] [(.int (p24 ||| o0)), (.ref a1)])) rfl rfl (hb hy d14_30)
  have Fw29 := fc25.same W29
  have KK29 : Keep h0 h29 [a1] := KK19.wr W29 (Or.inl (List.mem_of_getElem? (i := 0) rfl))
  have OL29 := OL19.wr W29 pr18
  have N29 := Fr.snoc X29 N27 pr18
  obtain ⟨T30, h30, X30, e30, E30, LM30, st30⟩ := own_mk X29 hx hZ hml hnamed (wd197 hw) (wd200 hw) own_lok1 rfl rfl e29 a1 p2 #[rv a1, iv p2, rv a3, rv b19_0] [(.ref b19_0)] rfl (hb hy d14_36) (by decide) (by decide) (W := 1) rfl (by decide)
  obtain ⟨b30, g30⟩ : ∃ z, z = h29.size := ⟨_, rfl⟩
  rw [← g30] at LM30 st30
  have KK30 : Keep h0 h30 [a1] := KK29.ext E30
  have OL30 := OL29.ext E30
  have nz38 := nl pr17.lt sz_b19_0
  have fc39 := ((u19_11.other W29 (Or.inl (Ne.symm nz38))).ext E30)
  have fc40 := ((((pr19.keep K12 nin0).keep K19 nin0).other W29 (Or.inr (slot_ne (Or.inr (wd69 hw)) (Or.inl (wd191 hw)) (by decide) (t := (.array tV)) (t' := .boolean) (by decide) (by decide)))).ext E30)
  have fc41 := ((((pr20.keep K12 nin0).keep K19 nin0).other W29 pr21).ext E30)
  have fc42 := (((fc20.keep K19 nin0).other W29 (Or.inl pr22)).ext E30)
  have fc43 := (((fc21.keep K19 nin0).other W29 pr23).ext E30)
  have nz44 := nl pr19.lt sz_b19_1
  have fc45 := ((u19_13.other W29 (Or.inl (Ne.symm nz44))).ext E30)
  have nz46 := nl pr19.lt sz_b19_2
  have fc47 := ((u19_15.other W29 (Ne.symm nz46)).ext E30)
  have fc48 := (((fc22.keep K19 nin0).other W29 (Or.inl pr22)).ext E30)
  have fc49 := (((fc23.keep K19 nin0).other W29 pr24).ext E30)
  have fc50 := ((u19_14.other W29 (Or.inl (Ne.symm nz44))).ext E30)
  have nz51 := nl pr19.lt sz_b19_3
  have fc52 := ((u19_17.other W29 (Ne.symm nz51)).ext E30)
  have fc53 := ((((pr28.keep K12).keep K19).wr W29).ext E30)
  have fc54 := (Fw29.ext E30)
  have fc55 := ((fc28.wr W29).ext E30)
  have fc56 := ((((pr31.keep K12 nin0).keep K19 nin0).other W29 (Or.inr (slot_ne (Or.inr (wd97 hw)) (Or.inl (wd191 hw)) (by decide) (t := (.object s30)) (t' := .boolean) (by decide) (by decide)))).ext E30)
  have fc57 := ((((pr32.keep K12 nin0).keep K19 nin0).other W29 (Or.inr (slot_ne (Or.inr (wd95 hw)) (Or.inl (wd191 hw)) (by decide) (t := (.object s30)) (t' := .boolean) (by decide) (by decide)))).ext E30)
  have fc58 := ((((pr33.keep K12 nin0).keep K19 nin0).other W29 (Or.inr (slot_ne (Or.inl (wd104 hw)) (Or.inl (wd191 hw)) (by decide) (t := .boolean) (t' := .boolean) (by decide) (by decide)))).ext E30)
  have fc59 := ((u19_12.wr W29).ext E30)
  have fc60 := ((u19_10.wr W29).ext E30)
  obtain ⟨_, T37, L37, X37, hQ37, st37⟩ := own_cV X30 hx hZ ho hml (cw39 hw) (rm27_3 l Z a0 hw b19_0 b30 b19_1 a1 p2 a31 a3 k32 a13 q14 k15 b19_2 oj0 kx19_0 a16 q17 k18 b19_3 q11 kx19_1 w33 (nar .boolean (p24 ||| o0)) a34 a35 p36 h30 n0 OL30 fc39 LM30 fc40 fc41 fc42 fc43 fc45 fc47 fc48 fc49 fc50 fc52 pr25 pr26 pr27 fc53 fc54 pr29 pr30 fc55 pr18 fc56 fc57 fc58 fc59) e30 fc60 41 #[rv a1, iv p2, rv a3, rv b19_0] [(.ref b30)] [] 0 rfl (hb hy d14_41) (by decide)
  obtain ⟨rfl, Nq37, K37, u37_0, u37_1, u37_2, u37_3, u37_4⟩ := hQ37
  have KK37 : Keep h0 T37.heap [a1] := KK30.trans K37 (allS (Or.inl (List.mem_of_getElem? (i := 0) rfl)) all0)
  have N37 := Fr.app N29 Nq37
  refine ⟨none, _, _, _, _, _, X37, rfl, by decide, fun _ => rfl, fun fs hr => ?_, ?_⟩
  · refine st5 _ ?_
    refine xiloadN X5 hx hy d14_3 rfl ?_
    refine st9 _ ?_
    refine st10 _ ?_
    refine st12 _ ?_
    refine xaloadN X12 hx hy d14_15 rfl rfl ?_
    refine st19 _ ?_
    refine XS.astoreN X19.here hx rfl (hb hy d14_19) rfl rfl (l' := #[rv a1, iv p2, rv a3, rv b19_0]) rfl ?_
    refine xaloadN X19 hx hy d14_20 rfl rfl ?_
    refine XS.dup X19.here hx rfl (hb hy d14_21) rfl rfl ?_
    refine st26 _ ?_
    refine xaloadN X26 hx hy d14_25 rfl rfl ?_
    refine st27 _ ?_
    refine XS.ior X27.here hx rfl (hb hy d14_29) rfl ?_
    refine st29 _ ?_
    refine xaloadN X29 hx hy d14_33 rfl rfl ?_
    refine xaloadN X29 hx hy d14_34 rfl rfl ?_
    refine xiloadN X29 hx hy d14_35 rfl ?_
    refine st30 _ ?_
    refine st37 _ ?_
    show SS p e below T37 m 44 #[rv a1, iv p2, rv a3, rv b19_0] [] _
    exact X37.returnOut hx hret (hb hy d14_44) hr
  · exact ⟨rfl, N37, KK37, u37_1, u37_0, u37_2, u37_3, u37_4⟩
theorem rm28_2 (l : Launch) (Z : State) (a0 : Array Value) (hw : HW a0 Z) (a1 : Addr) (p2 : Int32) (a3 a4 a5 : Addr) (k6 : ClassId) (a7 : Addr) (q8 : Int64) (k9 : ClassId) (a10 : Addr) (q11 : Int64) (k12 : ClassId) (a13 : Addr) (q14 : Int64) (k15 : ClassId) (a16 : Addr) (q17 : Int64) (k18 : ClassId) (w19 : Addr) (p20 : Int32) (a21 a22 : Addr) (p23 : Int32) (h0 : Heap) (n0 : Nat) (OL0 : Old Z n0 h0) (pr1 : Fld Z h0 a1 s45 "sets" s8 (.ref a4)) (pr2 : Asl Z h0 a4 k6 tV o12 p2 (.ref a5)) (pr3 : Fld Z h0 a5 s43 "lows" "[J" (.ref a7)) (pr4 : Arv Z h0 a7 k9 .long o1 [(.long q8)] lj0) (pr5 : Fld Z h0 a3 s43 "lows" "[J" (.ref a10)) (pr6 : Arv Z h0 a10 k12 .long o1 [(.long q11)] lj0) (pr7 : Fld Z h0 a5 s43 "highs" "[J" (.ref a13)) (pr8 : Arv Z h0 a13 k15 .long o1 [(.long q14)] lj0) (pr9 : Fld Z h0 a3 s43 "highs" "[J" (.ref a16)) (pr10 : Arv Z h0 a16 k18 .long o1 [(.long q17)] lj0) (pr11 : (own_jmin q14 q17) < (own_jmax q8 q11)) (pr12 : q14 < q17) (pr13 : Sta Z Z.heap s32 "EMPTY" s6 (.ref w19)) (pr14 : Exa Z h0 a5 s43) (pr15 : Fld Z h0 a1 s45 s15 "Z" (.int p20)) (pr16 : Fld Z Z.heap w19 s32 "value" s3 .null) (pr17 : Exa Z Z.heap w19 s32) (pr18 : Exa Z h0 a1 s45) (pr19 : n0 ≤ a1) (pr20 : Fld Z h0 a1 s45 s11 s5 (.ref a21)) (pr21 : Fld Z h0 a1 s45 s16 s5 (.ref a22)) (pr22 : Fld Z h0 a1 s45 s48 "Z" (.int p23)) :
    MF l Z mn28 prog_66_method_13_code 3 none ⟨4, 4, 9, 3090⟩ #[(.ref a1), (.int p2), (.ref a3)] h0 (fun v h L => v = none ∧ Fr n0 L ∧ Keep h0 h [a1] ∧ Fld Z h a1 s45 "sets" s8 (.ref a4) ∧ Fld Z h a1 s45 s15 "Z" (.int (nar .boolean (p20 ||| o1))) ∧ Fld Z h a1 s45 s11 s5 (.ref a21) ∧ Fld Z h a1 s45 s16 s5 (.ref a22) ∧ Fld Z h a1 s45 s48 "Z" (.int p23)) := by
  refine own_start (plainFor_of_name pn_7) (fun m => (ef_28_37 m a1 p2 a3)) ?_
  intro p e s m below meth c s₁ hZ hx hy hml ho hnm hret X0 e0
  have N0 := Fr.nil n0
  obtain ⟨_, T24, L24, X24, hQ24, st24⟩ := own_cV X0 hx hZ ho hml (cw38 hw) (rm29_1 l Z a0 hw a1 p2 a3 a4 a5 k6 a7 q8 k9 a10 q11 k12 a13 q14 k15 a16 q17 k18 w19 p20 a21 a22 p23 h0 n0 OL0 pr1 pr2 pr3 pr4 pr5 pr6 pr7 pr8 pr9 pr10 pr11 pr12 pr13 pr14 pr15 pr16 pr17 pr18 pr19 pr20 pr21 pr22) e0 pr18 3 #[rv a1, iv p2, rv a3] [(.int p2), (.ref a3)] [] 0 rfl (hb hy d28_3) (by decide)
  obtain ⟨rfl, Nq24, K24, u24_0, u24_1, u24_2, u24_3, u24_4⟩ := hQ24
  have KK24 : Keep h0 T24.heap [a1] := (Keep.refl h0 [a1]).trans K24 (allS (Or.inl (List.mem_of_getElem? (i := 0) rfl)) all0)
  have N24 := Fr.app N0 Nq24
  refine ⟨none, _, _, _, _, _, X24, rfl, by decide, fun _ => rfl, fun fs hr => ?_, ?_⟩
  · refine xaloadN X0 hx hy d28_0 rfl rfl ?_
    refine xiloadN X0 hx hy d28_1 rfl ?_
    refine xaloadN X0 hx hy d28_2 rfl rfl ?_
    refine st24 _ ?_
    show SS p e below T24 m 6 #[rv a1, iv p2, rv a3] [] _
    exact X24.returnOut hx hret (hb hy d28_6) hr
  · exact ⟨rfl, N24, KK24, u24_0, u24_1, u24_2, u24_3, u24_4⟩
theorem rm27_4 (l : Launch) (Z : State) (a0 : Array Value) (hw : HW a0 Z) (a1 a2 a3 a6 : Addr) (p7 : Int32) (a8 a9 : Addr) (k10 : ClassId) (a11 : Addr) (q12 : Int64) (k13 : ClassId) (a14 : Addr) (q15 : Int64) (k16 : ClassId) (a17 : Addr) (q18 : Int64) (k19 : ClassId) (a20 : Addr) (q21 : Int64) (k22 : ClassId) (w23 : Addr) (p24 : Int32) (a25 a26 : Addr) (p27 : Int32) (h0 : Heap) (n0 : Nat) (OL0 : Old Z n0 h0) (pr1 : Fld Z h0 a1 s32 "value" s3 (.ref a3)) (pr2 : LamF Z h0 a2 (sgm s34) a6 p7) (pr3 : Fld Z h0 a6 s45 "sets" s8 (.ref a8)) (pr4 : Asl Z h0 a8 k10 tV o12 p7 (.ref a9)) (pr5 : Fld Z h0 a9 s43 "lows" "[J" (.ref a11)) (pr6 : Arv Z h0 a11 k13 .long o1 [(.long q12)] lj0) (pr7 : Fld Z h0 a3 s43 "lows" "[J" (.ref a14)) (pr8 : Arv Z h0 a14 k16 .long o1 [(.long q15)] lj0) (pr9 : Fld Z h0 a9 s43 "highs" "[J" (.ref a17)) (pr10 : Arv Z h0 a17 k19 .long o1 [(.long q18)] lj0) (pr11 : Fld Z h0 a3 s43 "highs" "[J" (.ref a20)) (pr12 : Arv Z h0 a20 k22 .long o1 [(.long q21)] lj0) (pr13 : (own_jmin q18 q21) < (own_jmax q12 q15)) (pr14 : q18 < q21) (pr15 : Sta Z Z.heap s32 "EMPTY" s6 (.ref w23)) (pr16 : Exa Z h0 a9 s43) (pr17 : Fld Z h0 a6 s45 s15 "Z" (.int p24)) (pr18 : Fld Z Z.heap w23 s32 "value" s3 .null) (pr19 : Exa Z Z.heap w23 s32) (pr20 : Exa Z h0 a6 s45) (pr21 : n0 ≤ a6) (pr22 : Fld Z h0 a6 s45 s11 s5 (.ref a25)) (pr23 : Fld Z h0 a6 s45 s16 s5 (.ref a26)) (pr24 : Fld Z h0 a6 s45 s48 "Z" (.int p27)) (pr25 : Exa Z h0 a3 s43) :
    MF l Z mn27 jdk_32_method_8_code 2 none ⟨6, 4, 9, 3117⟩ #[(.ref a1), (.ref a2)] h0 (fun v h L => v = none ∧ Fr n0 L ∧ Keep h0 h [a6] ∧ Fld Z h a6 s45 "sets" s8 (.ref a8) ∧ Fld Z h a6 s45 s15 "Z" (.int (nar .boolean (p24 ||| o1))) ∧ Fld Z h a6 s45 s11 s5 (.ref a25) ∧ Fld Z h a6 s45 s16 s5 (.ref a26) ∧ Fld Z h a6 s45 s48 "Z" (.int p27)) := by
  refine own_start (plainFor_of_name pn_14) (fun m => (ef_27_38 m a1 a2)) ?_
  intro p e s m below meth c s₁ hZ hx hy hml ho hnm hret X0 e0
  have N0 := Fr.nil n0
  obtain ⟨T4, X4, e4, st4⟩ := gF X0 hx hZ ho (wd188 hw) Via.refl e0 pr1 1 #[rv a1, rv a2] [] (hb hy d27_1)
  obtain ⟨T5, X5, e5, st5⟩ := gF X4 hx hZ ho (wd188 hw) Via.refl e4 pr1 9 #[rv a1, rv a2] [(.ref a2)] (hb hy d27_9)
  obtain ⟨_, T28, L28, X28, hQ28, st28⟩ := own_cL X5 hx hZ ho hml (cl1 hw) (rm28_2 l Z a0 hw a6 p7 a3 a8 a9 k10 a11 q12 k13 a14 q15 k16 a17 q18 k19 a20 q21 k22 w23 p24 a25 a26 p27 h0 n0 OL0 pr3 pr4 pr5 pr6 pr7 pr8 pr9 pr10 pr11 pr12 pr13 pr14 pr15 pr16 pr17 pr18 pr19 pr20 pr21 pr22 pr23 pr24) e5 pr2 pr20 pr25 12 #[rv a1, rv a2] [] 0 rfl (hb hy d27_12) (by decide) (by rintro _ _ _ ⟨q, -⟩; exact q)
  obtain ⟨rfl, Nq28, K28, u28_0, u28_1, u28_2, u28_3, u28_4⟩ := hQ28
  have KK28 : Keep h0 T28.heap [a6] := (Keep.refl h0 [a6]).trans K28 (allS (Or.inl (List.mem_of_getElem? (i := 0) rfl)) all0)
  have N28 := Fr.app N0 Nq28
  refine ⟨none, _, _, _, _, _, X28, rfl, by decide, fun _ => rfl, fun fs hr => ?_, ?_⟩
  · refine xaloadN X0 hx hy d27_0 rfl rfl ?_
    refine st4 _ ?_
    refine XS.ifnullNo X4.here hx rfl (hb hy d27_4) rfl ?_
    refine xaloadN X4 hx hy d27_7 rfl rfl ?_
    refine xaloadN X4 hx hy d27_8 rfl rfl ?_
    refine st5 _ ?_
    refine st28 _ ?_
    show SS p e below T28 m 17 #[rv a1, rv a2] [] _
    exact X28.returnOut hx hret (hb hy d27_17) hr
  · exact ⟨rfl, N28, KK28, u28_0, u28_1, u28_2, u28_3, u28_4⟩
theorem rm14_6 (l : Launch) (Z : State) (a0 : Array Value) (hw : HW a0 Z) (a1 : Addr) (p2 : Int32) (a3 w4 w6 w7 : Addr) (k8 : ClassId) (q11 : Int64) (a13 : Addr) (q14 : Int64) (k15 : ClassId) (a16 : Addr) (q17 : Int64) (k18 : ClassId) (p24 : Int32) (a31 : Addr) (k32 : ClassId) (w33 a34 a35 : Addr) (p36 : Int32) (h0 : Heap) (n0 : Nat) (OL0 : Old Z n0 h0) (pr1 : Sta Z Z.heap s45 s2 s5 (.ref w4)) (pr2 : Fld Z Z.heap w4 s29 s13 s7 (.ref w6)) (pr3 : Asl Z Z.heap w6 k8 (.object s20) o12 p2 (.ref w7)) (pr4 : Exa Z Z.heap w4 s29) (pr5 : Exa Z Z.heap w7 s42) (pr6 : Fld Z Z.heap w7 s42 "low" "J" lj0) (pr7 : Fld Z Z.heap w7 s42 "high" "J" (.long q11)) (pr8 : ¬ (q11 < oj0)) (pr9 : ¬ ((281474976710656 : Int64) < q11)) (pr10 : Fld Z h0 a3 s43 "lows" "[J" (.ref a13)) (pr11 : Arv Z h0 a13 k15 .long o1 [(.long q14)] lj0) (pr12 : Fld Z h0 a3 s43 "highs" "[J" (.ref a16)) (pr13 : Arv Z h0 a16 k18 .long o1 [(.long q17)] lj0) (pr14 : ¬ (q17 < oj0)) (pr15 : ¬ (q11 < q14)) (pr16 : (q14 - (1 : Int64)) < oj0) (pr17 : ¬ (q11 < (q17 + (1 : Int64)))) (pr18 : Fld Z h0 a1 s45 s15 "Z" (.int p24)) (pr19 : Exa Z h0 a1 s45) (pr20 : n0 ≤ a1) (pr21 : Fld Z h0 a1 s45 "sets" s8 (.ref a31)) (pr22 : Asl Z h0 a31 k32 tV o12 p2 (.ref a3)) (pr23 : a31 ≠ a1) (pr24 : a3 ≠ a1) (pr25 : a13 ≠ a1) (pr26 : a16 ≠ a1) (pr27 : (own_jmin q17 q11) < (own_jmax q14 (q17 + (1 : Int64)))) (pr28 : q17 < q11) (pr29 : Sta Z Z.heap s32 "EMPTY" s6 (.ref w33)) (pr30 : Exa Z h0 a3 s43) (pr31 : Fld Z Z.heap w33 s32 "value" s3 .null) (pr32 : Exa Z Z.heap w33 s32) (pr33 : Fld Z h0 a1 s45 s11 s5 (.ref a34)) (pr34 : Fld Z h0 a1 s45 s16 s5 (.ref a35)) (pr35 : Fld Z h0 a1 s45 s48 "Z" (.int p36)) :
    MF l Z mn14 prog_66_method_6_code 4 none ⟨7, 15, 27, 3130⟩ #[(.ref a1), (.int p2), (.ref a3)] h0 (fun v h L => v = none ∧ Fr n0 L ∧ Keep h0 h [a1] ∧ Fld Z h a1 s45 s15 "Z" (.int (nar .boolean ((nar .boolean (p24 ||| o0)) ||| o1))) ∧ Fld Z h a1 s45 "sets" s8 (.ref a31) ∧ Fld Z h a1 s45 s11 s5 (.ref a34) ∧ Fld Z h a1 s45 s16 s5 (.ref a35) ∧ Fld Z h a1 s45 s48 "Z" (.int p36)) := by
  refine own_startN (plainFor_of_name pn_7) (fun m => (ef_14_39 m a1 p2 a3)) ?_
  intro p e s m below meth c s₁ hZ hx hy hml ho hnm hnamed hret X0 e0
  have N0 := Fr.nil n0
  obtain ⟨T5, X5, e5, st5⟩ := getS2 X0 hx hZ ho (host := "") (Or.inl (wd52 hw)) Via.refl e0 (pr1.ext OL0.2) (g := (mkF m 0 #[rv a1, iv p2, rv a3, uu] [])) rfl (hb hy d14_0)
  obtain ⟨_, T9, L9, X9, hQ9, st9⟩ := own_cI X5 hx hZ ho hml (cw24 hw) (rm15_0 l Z a0 hw w4 p2 w6 w7 k8 h0 n0 OL0 pr2 pr3) e5 (pr4.ext OL0.2) 4 #[rv a1, iv p2, rv a3, uu] [(.int p2)] [] 0 rfl (hb hy d14_4) (by decide)
  obtain ⟨rfl, Nq9, ec9⟩ := hQ9
  have N9 := Fr.app N0 Nq9
  obtain ⟨T10, X10, e10, st10⟩ := castY X9 hx hZ ho (wd118 hw) ec9 (Ins.self (pr5.ext OL0.2)) (g := (mkF m 9 #[rv a1, iv p2, rv a3, uu] [(.ref w7)])) rfl rfl (hb hy d14_9)
  obtain ⟨_, T12, L12, X12, hQ12, st12⟩ := own_cV X10 hx hZ ho hml (cw26 hw) (rm16_0 l Z a0 hw w7 q11 h0 n0 OL0 pr6 pr7 pr8 pr9) e10 (pr5.ext OL0.2) 12 #[rv a1, iv p2, rv a3, uu] [] [] 0 rfl (hb hy d14_12) (by decide)
  obtain ⟨b12_0, b12_1, b12_2, kx12_0, kx12_1, rfl, Nq12, K12, u12_0, u12_1, u12_2, u12_3, u12_4, u12_5, u12_6, u12_7, u12_8, u12_9, u12_10, u12_11, u12_12⟩ := hQ12
  have KK12 : Keep h0 T12.heap [a1] := (Keep.refl h0 [a1]).trans K12 all0
  have OL12 := OL0.keep K12 all0
  have N12 := Fr.app N9 Nq12
  have fc20 := (pr10.keep K12 nin0)
  have fc21 := (pr11.keep K12 nin0)
  have fc22 := (pr12.keep K12 nin0)
  have fc23 := (pr13.keep K12 nin0)
  obtain ⟨_, T19, L19, X19, hQ19, st19⟩ := own_cV X12 hx hZ ho hml (cw36 hw) (rm17_2 l Z a0 hw b12_0 a3 b12_1 oj0 kx12_0 a13 q14 k15 a16 q17 k18 b12_2 q11 kx12_1 T12.heap n0 OL12 u12_7 u12_9 fc20 fc21 fc22 fc23 pr14 u12_8 u12_11 pr15 pr8 pr16 pr17) rfl u12_6 16 #[rv a1, iv p2, rv a3, uu] [(.ref a3)] [] 0 rfl (hb hy d14_16) (by decide)
  obtain ⟨b19_0, b19_1, b19_2, b19_3, kx19_0, kx19_1, rfl, Nq19, K19, u19_0, u19_1, u19_2, u19_3, u19_4, u19_5, u19_6, u19_7, u19_8, u19_9, u19_10, u19_11, u19_12, u19_13, u19_14, u19_15, u19_16, u19_17, u19_18⟩ := hQ19
  have KK19 : Keep h0 T19.heap [a1] := KK12.trans K19 all0
  have OL19 := OL12.keep K19 all0
  have sz_b19_0 : h0.size ≤ b19_0 := Nat.le_trans KK12.1 u19_0
  have sz_b19_1 : h0.size ≤ b19_1 := Nat.le_trans KK12.1 u19_1
  have sz_b19_2 : h0.size ≤ b19_2 := Nat.le_trans KK12.1 u19_2
  have sz_b19_3 : h0.size ≤ b19_3 := Nat.le_trans KK12.1 u19_3
  have N19 := Fr.app N12 Nq19
  have fc25 := ((pr18.keep K12 nin0).keep K19 nin0)
  obtain ⟨T26, X26, e26, st26⟩ := gF X19 hx hZ ho (wd190 hw) Via.refl rfl fc25 22 #[rv a1, iv p2, rv a3, rv b19_0] [(.ref a1)] (hb hy d14_22)
  obtain ⟨_, T27, L27, X27, hQ27, st27⟩ := own_cV X26 hx hZ ho hml (cw37 hw) (rm26_0 l Z a0 hw b19_0 b19_1 T19.heap n0 OL19 u19_11) e26 u19_10 26 #[rv a1, iv p2, rv a3, rv b19_0] [] [(.int p24), (.ref a1)] 2 rfl (hb hy d14_26) (by decide)
  obtain ⟨rfl, Nq27, ec27⟩ := hQ27
  have N27 := Fr.app N19 Nq27
  have fc28 := ((pr19.keep K12).keep K19)
  obtain ⟨T29, h29, X29, e29, W29, st29⟩ := putFN X27 hx hZ ho (wd190 hw) Via.refl ec27 fc25 fc28 (Or.inl (wd191 hw)) (wd46 hw) (ty := .boolean) (v' := (.int (nar .boolean (p24 ||| o0)))) (by decide) rfl (fits_nar_bool _) (g := (mkF m 30 #[rv a1, iv p2, rv a3, rv b19_0] [(.int (p24 ||| o0)), (.ref a1)])) rfl rfl (hb hy d14_30)
  have Fw29 := fc25.same W29
  have KK29 : Keep h0 h29 [a1] := KK19.wr W29 (Or.inl (List.mem_of_getElem? (i := 0) rfl))
  have OL29 := OL19.wr W29 pr20
  have N29 := Fr.snoc X29 N27 pr20
  obtain ⟨T30, h30, X30, e30, E30, LM30, st30⟩ := own_mk X29 hx hZ hml hnamed (wd197 hw) (wd200 hw) own_lok1 rfl rfl e29 a1 p2 #[rv a1, iv p2, rv a3, rv b19_0] [(.ref b19_0)] rfl (hb hy d14_36) (by decide) (by decide) (W := 1) rfl (by decide)
  obtain ⟨b30, g30⟩ : ∃ z, z = h29.size := ⟨_, rfl⟩
  rw [← g30] at LM30 st30
  have KK30 : Keep h0 h30 [a1] := KK29.ext E30
  have OL30 := OL29.ext E30
  have nz38 := nl pr19.lt sz_b19_0
  have fc39 := ((u19_11.other W29 (Or.inl (Ne.symm nz38))).ext E30)
  have fc40 := ((((pr21.keep K12 nin0).keep K19 nin0).other W29 (Or.inr (slot_ne (Or.inr (wd69 hw)) (Or.inl (wd191 hw)) (by decide) (t := (.array tV)) (t' := .boolean) (by decide) (by decide)))).ext E30)
  have fc41 := ((((pr22.keep K12 nin0).keep K19 nin0).other W29 pr23).ext E30)
  have fc42 := (((fc20.keep K19 nin0).other W29 (Or.inl pr24)).ext E30)
  have fc43 := (((fc21.keep K19 nin0).other W29 pr25).ext E30)
  have nz44 := nl pr21.lt sz_b19_1
  have fc45 := ((u19_13.other W29 (Or.inl (Ne.symm nz44))).ext E30)
  have nz46 := nl pr21.lt sz_b19_2
  have fc47 := ((u19_15.other W29 (Ne.symm nz46)).ext E30)
  have fc48 := (((fc22.keep K19 nin0).other W29 (Or.inl pr24)).ext E30)
  have fc49 := (((fc23.keep K19 nin0).other W29 pr26).ext E30)
  have fc50 := ((u19_14.other W29 (Or.inl (Ne.symm nz44))).ext E30)
  have nz51 := nl pr21.lt sz_b19_3
  have fc52 := ((u19_17.other W29 (Ne.symm nz51)).ext E30)
  have fc53 := ((((pr30.keep K12).keep K19).wr W29).ext E30)
  have fc54 := (Fw29.ext E30)
  have fc55 := ((fc28.wr W29).ext E30)
  have fc56 := ((((pr33.keep K12 nin0).keep K19 nin0).other W29 (Or.inr (slot_ne (Or.inr (wd97 hw)) (Or.inl (wd191 hw)) (by decide) (t := (.object s30)) (t' := .boolean) (by decide) (by decide)))).ext E30)
  have fc57 := ((((pr34.keep K12 nin0).keep K19 nin0).other W29 (Or.inr (slot_ne (Or.inr (wd95 hw)) (Or.inl (wd191 hw)) (by decide) (t := (.object s30)) (t' := .boolean) (by decide) (by decide)))).ext E30)
  have fc58 := ((((pr35.keep K12 nin0).keep K19 nin0).other W29 (Or.inr (slot_ne (Or.inl (wd104 hw)) (Or.inl (wd191 hw)) (by decide) (t := .boolean) (t' := .boolean) (by decide) (by decide)))).ext E30)
  have fc59 := ((u19_12.wr W29).ext E30)
  have fc60 := ((u19_10.wr W29).ext E30)
  obtain ⟨_, T37, L37, X37, hQ37, st37⟩ := own_cV X30 hx hZ ho hml (cw39 hw) (rm27_4 l Z a0 hw b19_0 b30 b19_1 a1 p2 a31 a3 k32 a13 q14 k15 b19_2 (q17 + (1 : Int64)) kx19_0 a16 q17 k18 b19_3 q11 kx19_1 w33 (nar .boolean (p24 ||| o0)) a34 a35 p36 h30 n0 OL30 fc39 LM30 fc40 fc41 fc42 fc43 fc45 fc47 fc48 fc49 fc50 fc52 pr27 pr28 pr29 fc53 fc54 pr31 pr32 fc55 pr20 fc56 fc57 fc58 fc59) e30 fc60 41 #[rv a1, iv p2, rv a3, rv b19_0] [(.ref b30)] [] 0 rfl (hb hy d14_41) (by decide)
  obtain ⟨rfl, Nq37, K37, u37_0, u37_1, u37_2, u37_3, u37_4⟩ := hQ37
  have KK37 : Keep h0 T37.heap [a1] := KK30.trans K37 (allS (Or.inl (List.mem_of_getElem? (i := 0) rfl)) all0)
  have N37 := Fr.app N29 Nq37
  refine ⟨none, _, _, _, _, _, X37, rfl, by decide, fun _ => rfl, fun fs hr => ?_, ?_⟩
  · refine st5 _ ?_
    refine xiloadN X5 hx hy d14_3 rfl ?_
    refine st9 _ ?_
    refine st10 _ ?_
    refine st12 _ ?_
    refine xaloadN X12 hx hy d14_15 rfl rfl ?_
    refine st19 _ ?_
    refine XS.astoreN X19.here hx rfl (hb hy d14_19) rfl rfl (l' := #[rv a1, iv p2, rv a3, rv b19_0]) rfl ?_
    refine xaloadN X19 hx hy d14_20 rfl rfl ?_
    refine XS.dup X19.here hx rfl (hb hy d14_21) rfl rfl ?_
    refine st26 _ ?_
    refine xaloadN X26 hx hy d14_25 rfl rfl ?_
    refine st27 _ ?_
    refine XS.ior X27.here hx rfl (hb hy d14_29) rfl ?_
    refine st29 _ ?_
    refine xaloadN X29 hx hy d14_33 rfl rfl ?_
    refine xaloadN X29 hx hy d14_34 rfl rfl ?_
    refine xiloadN X29 hx hy d14_35 rfl ?_
    refine st30 _ ?_
    refine st37 _ ?_
    show SS p e below T37 m 44 #[rv a1, iv p2, rv a3, rv b19_0] [] _
    exact X37.returnOut hx hret (hb hy d14_44) hr
  · exact ⟨rfl, N37, KK37, u37_1, u37_0, u37_2, u37_3, u37_4⟩
theorem rm14_7 (l : Launch) (Z : State) (a0 : Array Value) (hw : HW a0 Z) (a1 : Addr) (p2 : Int32) (a3 w4 w6 w7 : Addr) (k8 : ClassId) (q11 : Int64) (a13 : Addr) (q14 : Int64) (k15 : ClassId) (a16 : Addr) (q17 : Int64) (k18 : ClassId) (p24 : Int32) (a31 : Addr) (k32 : ClassId) (w33 a34 a35 : Addr) (p36 : Int32) (h0 : Heap) (n0 : Nat) (OL0 : Old Z n0 h0) (pr1 : Sta Z Z.heap s45 s2 s5 (.ref w4)) (pr2 : Fld Z Z.heap w4 s29 s13 s7 (.ref w6)) (pr3 : Asl Z Z.heap w6 k8 (.object s20) o12 p2 (.ref w7)) (pr4 : Exa Z Z.heap w4 s29) (pr5 : Exa Z Z.heap w7 s42) (pr6 : Fld Z Z.heap w7 s42 "low" "J" lj0) (pr7 : Fld Z Z.heap w7 s42 "high" "J" (.long q11)) (pr8 : ¬ (q11 < oj0)) (pr9 : ¬ ((281474976710656 : Int64) < q11)) (pr10 : Fld Z h0 a3 s43 "lows" "[J" (.ref a13)) (pr11 : Arv Z h0 a13 k15 .long o1 [(.long q14)] lj0) (pr12 : Fld Z h0 a3 s43 "highs" "[J" (.ref a16)) (pr13 : Arv Z h0 a16 k18 .long o1 [(.long q17)] lj0) (pr14 : ¬ (q17 < oj0)) (pr15 : ¬ (q11 < q14)) (pr16 : ¬ ((q14 - (1 : Int64)) < oj0)) (pr17 : q11 < (q17 + (1 : Int64))) (pr18 : Fld Z h0 a1 s45 s15 "Z" (.int p24)) (pr19 : Exa Z h0 a1 s45) (pr20 : n0 ≤ a1) (pr21 : Fld Z h0 a1 s45 "sets" s8 (.ref a31)) (pr22 : Asl Z h0 a31 k32 tV o12 p2 (.ref a3)) (pr23 : a31 ≠ a1) (pr24 : a3 ≠ a1) (pr25 : a13 ≠ a1) (pr26 : a16 ≠ a1) (pr27 : (own_jmin q17 (q14 - (1 : Int64))) < (own_jmax q14 oj0)) (pr28 : ¬ (q17 < (q14 - (1 : Int64)))) (pr29 : Sta Z Z.heap s32 "EMPTY" s6 (.ref w33)) (pr30 : Exa Z h0 a3 s43) (pr31 : Fld Z Z.heap w33 s32 "value" s3 .null) (pr32 : Exa Z Z.heap w33 s32) (pr33 : Fld Z h0 a1 s45 s11 s5 (.ref a34)) (pr34 : Fld Z h0 a1 s45 s16 s5 (.ref a35)) (pr35 : Fld Z h0 a1 s45 s48 "Z" (.int p36)) :
    MF l Z mn14 prog_66_method_6_code 4 none ⟨7, 15, 27, 3130⟩ #[(.ref a1), (.int p2), (.ref a3)] h0 (fun v h L => v = none ∧ Fr n0 L ∧ Keep h0 h [a1] ∧ Fld Z h a1 s45 s15 "Z" (.int (nar .boolean ((nar .boolean (p24 ||| o0)) ||| o1))) ∧ Fld Z h a1 s45 "sets" s8 (.ref a31) ∧ Fld Z h a1 s45 s11 s5 (.ref a34) ∧ Fld Z h a1 s45 s16 s5 (.ref a35) ∧ Fld Z h a1 s45 s48 "Z" (.int p36)) := by
  refine own_startN (plainFor_of_name pn_7) (fun m => (ef_14_39 m a1 p2 a3)) ?_
  intro p e s m below meth c s₁ hZ hx hy hml ho hnm hnamed hret X0 e0
  have N0 := Fr.nil n0
  obtain ⟨T5, X5, e5, st5⟩ := getS2 X0 hx hZ ho (host := "") (Or.inl (wd52 hw)) Via.refl e0 (pr1.ext OL0.2) (g := (mkF m 0 #[rv a1, iv p2, rv a3, uu] [])) rfl (hb hy d14_0)
  obtain ⟨_, T9, L9, X9, hQ9, st9⟩ := own_cI X5 hx hZ ho hml (cw24 hw) (rm15_0 l Z a0 hw w4 p2 w6 w7 k8 h0 n0 OL0 pr2 pr3) e5 (pr4.ext OL0.2) 4 #[rv a1, iv p2, rv a3, uu] [(.int p2)] [] 0 rfl (hb hy d14_4) (by decide)
  obtain ⟨rfl, Nq9, ec9⟩ := hQ9
  have N9 := Fr.app N0 Nq9
  obtain ⟨T10, X10, e10, st10⟩ := castY X9 hx hZ ho (wd118 hw) ec9 (Ins.self (pr5.ext OL0.2)) (g := (mkF m 9 #[rv a1, iv p2, rv a3, uu] [(.ref w7)])) rfl rfl (hb hy d14_9)
  obtain ⟨_, T12, L12, X12, hQ12, st12⟩ := own_cV X10 hx hZ ho hml (cw26 hw) (rm16_0 l Z a0 hw w7 q11 h0 n0 OL0 pr6 pr7 pr8 pr9) e10 (pr5.ext OL0.2) 12 #[rv a1, iv p2, rv a3, uu] [] [] 0 rfl (hb hy d14_12) (by decide)
  obtain ⟨b12_0, b12_1, b12_2, kx12_0, kx12_1, rfl, Nq12, K12, u12_0, u12_1, u12_2, u12_3, u12_4, u12_5, u12_6, u12_7, u12_8, u12_9, u12_10, u12_11, u12_12⟩ := hQ12
  have KK12 : Keep h0 T12.heap [a1] := (Keep.refl h0 [a1]).trans K12 all0
  have OL12 := OL0.keep K12 all0
  have N12 := Fr.app N9 Nq12
  have fc20 := (pr10.keep K12 nin0)
  have fc21 := (pr11.keep K12 nin0)
  have fc22 := (pr12.keep K12 nin0)
  have fc23 := (pr13.keep K12 nin0)
  obtain ⟨_, T19, L19, X19, hQ19, st19⟩ := own_cV X12 hx hZ ho hml (cw36 hw) (rm17_3 l Z a0 hw b12_0 a3 b12_1 oj0 kx12_0 a13 q14 k15 a16 q17 k18 b12_2 q11 kx12_1 T12.heap n0 OL12 u12_7 u12_9 fc20 fc21 fc22 fc23 pr14 u12_8 u12_11 pr15 pr8 pr16 pr17) rfl u12_6 16 #[rv a1, iv p2, rv a3, uu] [(.ref a3)] [] 0 rfl (hb hy d14_16) (by decide)
  obtain ⟨b19_0, b19_1, b19_2, b19_3, kx19_0, kx19_1, rfl, Nq19, K19, u19_0, u19_1, u19_2, u19_3, u19_4, u19_5, u19_6, u19_7, u19_8, u19_9, u19_10, u19_11, u19_12, u19_13, u19_14, u19_15, u19_16, u19_17, u19_18⟩ := hQ19
  have KK19 : Keep h0 T19.heap [a1] := KK12.trans K19 all0
  have OL19 := OL12.keep K19 all0
  have sz_b19_0 : h0.size ≤ b19_0 := Nat.le_trans KK12.1 u19_0
  have sz_b19_1 : h0.size ≤ b19_1 := Nat.le_trans KK12.1 u19_1
  have sz_b19_2 : h0.size ≤ b19_2 := Nat.le_trans KK12.1 u19_2
  have sz_b19_3 : h0.size ≤ b19_3 := Nat.le_trans KK12.1 u19_3
  have N19 := Fr.app N12 Nq19
  have fc25 := ((pr18.keep K12 nin0).keep K19 nin0)
  obtain ⟨T26, X26, e26, st26⟩ := gF X19 hx hZ ho (wd190 hw) Via.refl rfl fc25 22 #[rv a1, iv p2, rv a3, rv b19_0] [(.ref a1)] (hb hy d14_22)
  obtain ⟨_, T27, L27, X27, hQ27, st27⟩ := own_cV X26 hx hZ ho hml (cw37 hw) (rm26_0 l Z a0 hw b19_0 b19_1 T19.heap n0 OL19 u19_11) e26 u19_10 26 #[rv a1, iv p2, rv a3, rv b19_0] [] [(.int p24), (.ref a1)] 2 rfl (hb hy d14_26) (by decide)
  obtain ⟨rfl, Nq27, ec27⟩ := hQ27
  have N27 := Fr.app N19 Nq27
  have fc28 := ((pr19.keep K12).keep K19)
  obtain ⟨T29, h29, X29, e29, W29, st29⟩ := putFN X27 hx hZ ho (wd190 hw) Via.refl ec27 fc25 fc28 (Or.inl (wd191 hw)) (wd46 hw) (ty := .boolean) (v' := (.int (nar .boolean (p24 ||| o0)))) (by decide) rfl (fits_nar_bool _) (g := (mkF m 30 #[rv a1, iv p2, rv a3, rv b19_0] [(.int (p24 ||| o0)), (.ref a1)])) rfl rfl (hb hy d14_30)
  have Fw29 := fc25.same W29
  have KK29 : Keep h0 h29 [a1] := KK19.wr W29 (Or.inl (List.mem_of_getElem? (i := 0) rfl))
  have OL29 := OL19.wr W29 pr20
  have N29 := Fr.snoc X29 N27 pr20
  obtain ⟨T30, h30, X30, e30, E30, LM30, st30⟩ := own_mk X29 hx hZ hml hnamed (wd197 hw) (wd200 hw) own_lok1 rfl rfl e29 a1 p2 #[rv a1, iv p2, rv a3, rv b19_0] [(.ref b19_0)] rfl (hb hy d14_36) (by decide) (by decide) (W := 1) rfl (by decide)
  obtain ⟨b30, g30⟩ : ∃ z, z = h29.size := ⟨_, rfl⟩
  rw [← g30] at LM30 st30
  have KK30 : Keep h0 h30 [a1] := KK29.ext E30
  have OL30 := OL29.ext E30
  have nz38 := nl pr19.lt sz_b19_0
  have fc39 := ((u19_11.other W29 (Or.inl (Ne.symm nz38))).ext E30)
  have fc40 := ((((pr21.keep K12 nin0).keep K19 nin0).other W29 (Or.inr (slot_ne (Or.inr (wd69 hw)) (Or.inl (wd191 hw)) (by decide) (t := (.array tV)) (t' := .boolean) (by decide) (by decide)))).ext E30)
  have fc41 := ((((pr22.keep K12 nin0).keep K19 nin0).other W29 pr23).ext E30)
  have fc42 := (((fc20.keep K19 nin0).other W29 (Or.inl pr24)).ext E30)
  have fc43 := (((fc21.keep K19 nin0).other W29 pr25).ext E30)
  have nz44 := nl pr21.lt sz_b19_1
  have fc45 := ((u19_13.other W29 (Or.inl (Ne.symm nz44))).ext E30)
  have nz46 := nl pr21.lt sz_b19_2
  have fc47 := ((u19_15.other W29 (Ne.symm nz46)).ext E30)
  have fc48 := (((fc22.keep K19 nin0).other W29 (Or.inl pr24)).ext E30)
  have fc49 := (((fc23.keep K19 nin0).other W29 pr26).ext E30)
  have fc50 := ((u19_14.other W29 (Or.inl (Ne.symm nz44))).ext E30)
  have nz51 := nl pr21.lt sz_b19_3
  have fc52 := ((u19_17.other W29 (Ne.symm nz51)).ext E30)
  have fc53 := ((((pr30.keep K12).keep K19).wr W29).ext E30)
  have fc54 := (Fw29.ext E30)
  have fc55 := ((fc28.wr W29).ext E30)
  have fc56 := ((((pr33.keep K12 nin0).keep K19 nin0).other W29 (Or.inr (slot_ne (Or.inr (wd97 hw)) (Or.inl (wd191 hw)) (by decide) (t := (.object s30)) (t' := .boolean) (by decide) (by decide)))).ext E30)
  have fc57 := ((((pr34.keep K12 nin0).keep K19 nin0).other W29 (Or.inr (slot_ne (Or.inr (wd95 hw)) (Or.inl (wd191 hw)) (by decide) (t := (.object s30)) (t' := .boolean) (by decide) (by decide)))).ext E30)
  have fc58 := ((((pr35.keep K12 nin0).keep K19 nin0).other W29 (Or.inr (slot_ne (Or.inl (wd104 hw)) (Or.inl (wd191 hw)) (by decide) (t := .boolean) (t' := .boolean) (by decide) (by decide)))).ext E30)
  have fc59 := ((u19_12.wr W29).ext E30)
  have fc60 := ((u19_10.wr W29).ext E30)
  obtain ⟨_, T37, L37, X37, hQ37, st37⟩ := own_cV X30 hx hZ ho hml (cw39 hw) (rm27_3 l Z a0 hw b19_0 b30 b19_1 a1 p2 a31 a3 k32 a13 q14 k15 b19_2 oj0 kx19_0 a16 q17 k18 b19_3 (q14 - (1 : Int64)) kx19_1 w33 (nar .boolean (p24 ||| o0)) a34 a35 p36 h30 n0 OL30 fc39 LM30 fc40 fc41 fc42 fc43 fc45 fc47 fc48 fc49 fc50 fc52 pr27 pr28 pr29 fc53 fc54 pr31 pr32 fc55 pr20 fc56 fc57 fc58 fc59) e30 fc60 41 #[rv a1, iv p2, rv a3, rv b19_0] [(.ref b30)] [] 0 rfl (hb hy d14_41) (by decide)
  obtain ⟨rfl, Nq37, K37, u37_0, u37_1, u37_2, u37_3, u37_4⟩ := hQ37
  have KK37 : Keep h0 T37.heap [a1] := KK30.trans K37 (allS (Or.inl (List.mem_of_getElem? (i := 0) rfl)) all0)
  have N37 := Fr.app N29 Nq37
  refine ⟨none, _, _, _, _, _, X37, rfl, by decide, fun _ => rfl, fun fs hr => ?_, ?_⟩
  · refine st5 _ ?_
    refine xiloadN X5 hx hy d14_3 rfl ?_
    refine st9 _ ?_
    refine st10 _ ?_
    refine st12 _ ?_
    refine xaloadN X12 hx hy d14_15 rfl rfl ?_
    refine st19 _ ?_
    refine XS.astoreN X19.here hx rfl (hb hy d14_19) rfl rfl (l' := #[rv a1, iv p2, rv a3, rv b19_0]) rfl ?_
    refine xaloadN X19 hx hy d14_20 rfl rfl ?_
    refine XS.dup X19.here hx rfl (hb hy d14_21) rfl rfl ?_
    refine st26 _ ?_
    refine xaloadN X26 hx hy d14_25 rfl rfl ?_
    refine st27 _ ?_
    refine XS.ior X27.here hx rfl (hb hy d14_29) rfl ?_
    refine st29 _ ?_
    refine xaloadN X29 hx hy d14_33 rfl rfl ?_
    refine xaloadN X29 hx hy d14_34 rfl rfl ?_
    refine xiloadN X29 hx hy d14_35 rfl ?_
    refine st30 _ ?_
    refine st37 _ ?_
    show SS p e below T37 m 44 #[rv a1, iv p2, rv a3, rv b19_0] [] _
    exact X37.returnOut hx hret (hb hy d14_44) hr
  · exact ⟨rfl, N37, KK37, u37_1, u37_0, u37_2, u37_3, u37_4⟩
theorem rm36_4 (l : Launch) (Z : State) (a0 : Array Value) (hw : HW a0 Z) (a1 a2 a4 : Addr) (q7 : Int64) (k8 : ClassId) (a11 : Addr) (q14 q15 : Int64) (k16 : ClassId) (a37 : Addr) (q40 : Int64) (k41 : ClassId) (a45 : Addr) (q48 q49 : Int64) (k50 : ClassId) (w82 : Addr) (h0 : Heap) (n0 : Nat) (OL0 : Old Z n0 h0) (pr1 : Fld Z h0 a1 s43 "lows" "[J" (.ref a4)) (pr2 : Arv Z h0 a4 k8 .long o1 [(.long q7)] lj0) (pr3 : Fld Z h0 a2 s43 "lows" "[J" (.ref a11)) (pr4 : Arv Z h0 a11 k16 .long o2 [(.long q14), (.long q15)] lj0) (pr5 : Fld Z h0 a1 s43 "highs" "[J" (.ref a37)) (pr6 : Arv Z h0 a37 k41 .long o1 [(.long q40)] lj0) (pr7 : Fld Z h0 a2 s43 "highs" "[J" (.ref a45)) (pr8 : Arv Z h0 a45 k50 .long o2 [(.long q48), (.long q49)] lj0) (pr9 : (own_jmin q40 q48) < (own_jmax q7 q14)) (pr10 : ¬ (q40 < q48)) (pr11 : (own_jmin q40 q49) < (own_jmax q7 q15)) (pr12 : q40 < q49) (pr13 : Sta Z Z.heap s32 "EMPTY" s6 (.ref w82)) :
    MF l Z mn36 prog_63_method_4_code 5 (some (.object s32)) ⟨2, 3, 9, 26⟩ #[(.ref a1), (.ref a2)] h0 (fun v h L => v = some (.ref w82) ∧ Fr n0 L ∧ Keep h0 h []) := by
  refine own_start (plainFor_of_name pn_2) (fun m => (ef_36_43 m a1 a2)) ?_
  intro p e s m below meth c s₁ hZ hx hy hml ho hnm hret X0 e0
  have N0 := Fr.nil n0
  obtain ⟨T3, h3, X3, e3, E3, A3, D3, -, st3⟩ := newO X0 hx hZ ho (wd136 hw) (wd137 hw) (wd138 hw) e0 (g := (mkF m 0 #[rv a1, rv a2, uu, uu, uu] [])) rfl (hb hy d36_0) (by decide) (by decide)
  obtain ⟨b3, g3⟩ : ∃ z, z = h0.size := ⟨_, rfl⟩
  rw [← g3] at A3 D3 st3
  have g_b3 : n0 ≤ b3 := (Nat.le_trans (Nat.le_trans (Nat.le_of_eq OL0.1.symm) OL0.2.1) (Nat.le_of_eq g3.symm))
  have sz_b3 : h0.size ≤ b3 := (Nat.le_trans (Keep.refl h0 []).1 (Nat.le_of_eq g3.symm))
  have KK3 : Keep h0 h3 [] := (Keep.refl h0 []).ext E3
  have OL3 := OL0.ext E3
  have F_lows_b3 : Fld Z h3 b3 s44 "lows" "[J" .null := D3 (Or.inr (wd144 hw)) (ty := (.array .long)) (by decide)
  have F_highs_b3 : Fld Z h3 b3 s44 "highs" "[J" .null := D3 (Or.inr (wd146 hw)) (ty := (.array .long)) (by decide)
  have F_count_b3 : Fld Z h3 b3 s44 "count" "I" vi0 := D3 (Or.inl (wd153 hw)) (ty := .int) (by decide)
  have fc5 := (pr1.ext E3)
  obtain ⟨T6, X6, e6, st6⟩ := gF X3 hx hZ ho (wd41 hw) Via.refl e3 fc5 5 #[rv a1, rv a2, uu, uu, uu] [(.ref b3), (.ref b3)] (hb hy d36_5)
  have fc9 := (pr2.ext E3)
  obtain ⟨cl10, Ar10, -, Sz10, Nn10, -, -⟩ := id fc9
  have fc12 := (pr3.ext E3)
  obtain ⟨T13, X13, e13, st13⟩ := gF X6 hx hZ ho (wd41 hw) Via.refl e6 fc12 10 #[rv a1, rv a2, uu, uu, uu] [vi1, (.ref b3), (.ref b3)] (hb hy d36_10)
  have fc17 := (pr4.ext E3)
  obtain ⟨cl18, Ar18, -, Sz18, Nn18, -, -⟩ := id fc17
  obtain ⟨_, T19, L19, X19, hQ19, st19⟩ := own_cN X13 hx hZ ho hml (cw27 hw) (rm18_1 l Z a0 hw b3 h3 n0 OL3 A3 F_lows_b3 g_b3 F_highs_b3 F_count_b3) e13 b3 15 #[rv a1, rv a2, uu, uu, uu] [(.int (3 : Int32))] [(.ref b3)] 1 rfl (hb hy d36_15) (by decide)
  obtain ⟨b19_0, b19_1, kx19_0, kx19_1, rfl, Nq19, K19, u19_0, u19_1, u19_2, u19_3, u19_4, u19_5, u19_6, u19_7, u19_8, u19_9⟩ := hQ19
  have KK19 : Keep h0 T19.heap [] := KK3.trans K19 (allS (Or.inr sz_b3) all0)
  have OL19 := OL3.keep K19 (allS g_b3 all0)
  have N19 := Fr.app N0 Nq19
  have nz20 := nl pr1.lt sz_b3
  have fc21 := (fc5.keep K19 (ninS nz20 nin0))
  obtain ⟨T22, X22, e22, st22⟩ := gF X19 hx hZ ho (wd41 hw) Via.refl rfl fc21 26 #[rv a1, rv a2, rv b3, iv o0, iv o0] [vi0] (hb hy d36_26)
  have nz23 := nl pr2.lt sz_b3
  have fc24 := (fc9.keep K19 (ninS nz23 nin0))
  obtain ⟨cl25, Ar25, -, Sz25, Nn25, -, -⟩ := id fc24
  have nz26 := nl pr3.lt sz_b3
  have fc27 := (fc12.keep K19 (ninS nz26 nin0))
  obtain ⟨T28, X28, e28, st28⟩ := gF X22 hx hZ ho (wd41 hw) Via.refl e22 fc27 36 #[rv a1, rv a2, rv b3, iv o0, iv o0] [vi0] (hb hy d36_36)
  have nz29 := nl pr4.lt sz_b3
  have fc30 := (fc17.keep K19 (ninS nz29 nin0))
  obtain ⟨cl31, Ar31, -, Sz31, Nn31, -, -⟩ := id fc30
  obtain ⟨T32, X32, e32, st32⟩ := gF X28 hx hZ ho (wd41 hw) Via.refl e28 fc21 45 #[rv a1, rv a2, rv b3, iv o0, iv o0] [(.ref b3)] (hb hy d36_45)
  obtain ⟨T34, X34, e34, st34⟩ := gF X32 hx hZ ho (wd41 hw) Via.refl e32 fc27 51 #[rv a1, rv a2, rv b3, iv o0, iv o0] [(.long q7), (.ref b3)] (hb hy d36_51)
  obtain ⟨_, T36, L36, X36, hQ36, st36⟩ := own_cS X34 hx hZ ho hml (cw41 hw) (mg_own_jmax l Z a0 hw q7 q14 T19.heap n0 OL19 ) e34 57 #[rv a1, rv a2, rv b3, iv o0, iv o0] [(.long q7), (.long q14)] [(.ref b3)] 1 rfl (hb hy d36_57) (by decide)
  obtain ⟨rfl, Nq36, ec36⟩ := hQ36
  have N36 := Fr.app N19 Nq36
  have fc38 := ((pr5.ext E3).keep K19 (ninS nz20 nin0))
  obtain ⟨T39, X39, e39, st39⟩ := gF X36 hx hZ ho (wd43 hw) Via.refl ec36 fc38 61 #[rv a1, rv a2, rv b3, iv o0, iv o0] [(.long (own_jmax q7 q14)), (.ref b3)] (hb hy d36_61)
  have nz42 := nl pr6.lt sz_b3
  have fc43 := ((pr6.ext E3).keep K19 (ninS nz42 nin0))
  have fc46 := ((pr7.ext E3).keep K19 (ninS nz26 nin0))
  obtain ⟨T47, X47, e47, st47⟩ := gF X39 hx hZ ho (wd43 hw) Via.refl e39 fc46 67 #[rv a1, rv a2, rv b3, iv o0, iv o0] [(.long q40), (.long (own_jmax q7 q14)), (.ref b3)] (hb hy d36_67)
  have nz51 := nl pr8.lt sz_b3
  have fc52 := ((pr8.ext E3).keep K19 (ninS nz51 nin0))
  obtain ⟨_, T54, L54, X54, hQ54, st54⟩ := own_cS X47 hx hZ ho hml (cw42 hw) (mg_own_jmin l Z a0 hw q40 q48 T19.heap n0 OL19 ) e47 73 #[rv a1, rv a2, rv b3, iv o0, iv o0] [(.long q40), (.long q48)] [(.long (own_jmax q7 q14)), (.ref b3)] 3 rfl (hb hy d36_73) (by decide)
  obtain ⟨rfl, Nq54, ec54⟩ := hQ54
  have N54 := Fr.app N36 Nq54
  have fc56 := (A3.keep K19)
  obtain ⟨_, T55, L55, X55, hQ55, st55⟩ := own_cV X54 hx hZ ho hml (cw28 hw) (rm19_1 l Z a0 hw b3 (own_jmax q7 q14) (own_jmin q40 q48) T19.heap n0 OL19 pr9) ec54 fc56 76 #[rv a1, rv a2, rv b3, iv o0, iv o0] [(.long (own_jmax q7 q14)), (.long (own_jmin q40 q48))] [] 0 rfl (hb hy d36_76) (by decide)
  obtain ⟨rfl, Nq55, ec55⟩ := hQ55
  have N55 := Fr.app N54 Nq55
  obtain ⟨T57, X57, e57, st57⟩ := gF X55 hx hZ ho (wd43 hw) Via.refl ec55 fc38 80 #[rv a1, rv a2, rv b3, iv o0, iv o0] [] (hb hy d36_80)
  obtain ⟨T59, X59, e59, st59⟩ := gF X57 hx hZ ho (wd43 hw) Via.refl e57 fc46 86 #[rv a1, rv a2, rv b3, iv o0, iv o0] [(.long q40)] (hb hy d36_86)
  obtain ⟨T61, X61, e61, st61⟩ := gF X59 hx hZ ho (wd41 hw) Via.refl e59 fc21 26 #[rv a1, rv a2, rv b3, iv o0, iv o1] [vi0] (hb hy d36_26)
  obtain ⟨cl62, Ar62, -, Sz62, Nn62, -, -⟩ := id fc24
  obtain ⟨T63, X63, e63, st63⟩ := gF X61 hx hZ ho (wd41 hw) Via.refl e61 fc27 36 #[rv a1, rv a2, rv b3, iv o0, iv o1] [vi1] (hb hy d36_36)
  obtain ⟨cl64, Ar64, -, Sz64, Nn64, -, -⟩ := id fc30
  obtain ⟨T65, X65, e65, st65⟩ := gF X63 hx hZ ho (wd41 hw) Via.refl e63 fc21 45 #[rv a1, rv a2, rv b3, iv o0, iv o1] [(.ref b3)] (hb hy d36_45)
  obtain ⟨T67, X67, e67, st67⟩ := gF X65 hx hZ ho (wd41 hw) Via.refl e65 fc27 51 #[rv a1, rv a2, rv b3, iv o0, iv o1] [(.long q7), (.ref b3)] (hb hy d36_51)
  obtain ⟨_, T69, L69, X69, hQ69, st69⟩ := own_cS X67 hx hZ ho hml (cw41 hw) (mg_own_jmax l Z a0 hw q7 q15 T19.heap n0 OL19 ) e67 57 #[rv a1, rv a2, rv b3, iv o0, iv o1] [(.long q7), (.long q15)] [(.ref b3)] 1 rfl (hb hy d36_57) (by decide)
  obtain ⟨rfl, Nq69, ec69⟩ := hQ69
  have N69 := Fr.app N55 Nq69
  obtain ⟨T70, X70, e70, st70⟩ := gF X69 hx hZ ho (wd43 hw) Via.refl ec69 fc38 61 #[rv a1, rv a2, rv b3, iv o0, iv o1] [(.long (own_jmax q7 q15)), (.ref b3)] (hb hy d36_61)
  obtain ⟨T72, X72, e72, st72⟩ := gF X70 hx hZ ho (wd43 hw) Via.refl e70 fc46 67 #[rv a1, rv a2, rv b3, iv o0, iv o1] [(.long q40), (.long (own_jmax q7 q15)), (.ref b3)] (hb hy d36_67)
  obtain ⟨_, T74, L74, X74, hQ74, st74⟩ := own_cS X72 hx hZ ho hml (cw42 hw) (mg_own_jmin l Z a0 hw q40 q49 T19.heap n0 OL19 ) e72 73 #[rv a1, rv a2, rv b3, iv o0, iv o1] [(.long q40), (.long q49)] [(.long (own_jmax q7 q15)), (.ref b3)] 3 rfl (hb hy d36_73) (by decide)
  obtain ⟨rfl, Nq74, ec74⟩ := hQ74
  have N74 := Fr.app N69 Nq74
  obtain ⟨_, T75, L75, X75, hQ75, st75⟩ := own_cV X74 hx hZ ho hml (cw28 hw) (rm19_1 l Z a0 hw b3 (own_jmax q7 q15) (own_jmin q40 q49) T19.heap n0 OL19 pr11) ec74 fc56 76 #[rv a1, rv a2, rv b3, iv o0, iv o1] [(.long (own_jmax q7 q15)), (.long (own_jmin q40 q49))] [] 0 rfl (hb hy d36_76) (by decide)
  obtain ⟨rfl, Nq75, ec75⟩ := hQ75
  have N75 := Fr.app N74 Nq75
  obtain ⟨T76, X76, e76, st76⟩ := gF X75 hx hZ ho (wd43 hw) Via.refl ec75 fc38 80 #[rv a1, rv a2, rv b3, iv o0, iv o1] [] (hb hy d36_80)
  obtain ⟨T78, X78, e78, st78⟩ := gF X76 hx hZ ho (wd43 hw) Via.refl e76 fc46 86 #[rv a1, rv a2, rv b3, iv o0, iv o1] [(.long q40)] (hb hy d36_86)
  obtain ⟨T80, X80, e80, st80⟩ := gF X78 hx hZ ho (wd41 hw) Via.refl e78 fc21 26 #[rv a1, rv a2, rv b3, iv o1, iv o1] [vi1] (hb hy d36_26)
  obtain ⟨cl81, Ar81, -, Sz81, Nn81, -, -⟩ := id fc24
  obtain ⟨_, T83, L83, X83, hQ83, st83⟩ := own_cV X80 hx hZ ho hml (cw35 hw) (rm20_1 l Z a0 hw b3 w82 T19.heap n0 OL19 u19_5 pr13) e80 fc56 109 #[rv a1, rv a2, rv b3, iv o1, iv o1] [] [] 0 rfl (hb hy d36_109) (by decide)
  obtain ⟨rfl, Nq83, ec83⟩ := hQ83
  have N83 := Fr.app N75 Nq83
  refine ⟨some (.ref w82), _, _, _, _, _, X83, ec83, by decide, nofun, fun fs hr => ?_, ?_⟩
  · refine st3 _ ?_
    refine XS.dup X3.here hx rfl (hb hy d36_3) rfl rfl ?_
    refine xaloadN X3 hx hy d36_4 rfl rfl ?_
    refine st6 _ ?_
    refine X6.arraylength hx (by rw [e6]; exact Ar10.1) (State.isArrayOf_alike hZ.alike Ar10.2.1) (g := (mkF m 8 #[rv a1, rv a2, uu, uu, uu] [(.ref a4), (.ref b3), (.ref b3)])) rfl rfl (hb hy d36_8) _ ?_
    rw [len_of Sz10 Nn10]
    refine xaloadN X6 hx hy d36_9 rfl rfl ?_
    refine st13 _ ?_
    refine X13.arraylength hx (by rw [e13]; exact Ar18.1) (State.isArrayOf_alike hZ.alike Ar18.2.1) (g := (mkF m 13 #[rv a1, rv a2, uu, uu, uu] [(.ref a11), vi1, (.ref b3), (.ref b3)])) rfl rfl (hb hy d36_13) _ ?_
    rw [len_of Sz18 Nn18]
    refine XS.iadd X13.here hx rfl (hb hy d36_14) rfl ?_
    refine st19 _ ?_
    refine XS.astoreN X19.here hx rfl (hb hy d36_18) rfl rfl (l' := #[rv a1, rv a2, rv b3, uu, uu]) rfl ?_
    refine XS.iconst X19.here hx rfl (hb hy d36_19) ?_
    refine XS.istoreN X19.here hx rfl (hb hy d36_20) rfl (l' := #[rv a1, rv a2, rv b3, iv o0, uu]) rfl ?_
    refine XS.iconst X19.here hx rfl (hb hy d36_21) ?_
    refine XS.istore X19.here hx rfl (hb hy d36_22) rfl (l' := #[rv a1, rv a2, rv b3, iv o0, iv o0]) rfl ?_
    refine xiloadN X19 hx hy d36_24 rfl ?_
    refine xaloadN X19 hx hy d36_25 rfl rfl ?_
    refine st22 _ ?_
    refine X22.arraylength hx (by rw [e22]; exact Ar25.1) (State.isArrayOf_alike hZ.alike Ar25.2.1) (g := (mkF m 29 #[rv a1, rv a2, rv b3, iv o0, iv o0] [(.ref a4), vi0])) rfl rfl (hb hy d36_29) _ ?_
    rw [len_of Sz25 Nn25]
    refine XS.icmpNo X22.here hx rfl (hb hy d36_30) rfl (tlt (by decide : o0 < o1)).2.1 ?_
    refine xiload X22 hx hy d36_33 rfl ?_
    refine xaloadN X22 hx hy d36_35 rfl rfl ?_
    refine st28 _ ?_
    refine X28.arraylength hx (by rw [e28]; exact Ar31.1) (State.isArrayOf_alike hZ.alike Ar31.2.1) (g := (mkF m 39 #[rv a1, rv a2, rv b3, iv o0, iv o0] [(.ref a11), vi0])) rfl rfl (hb hy d36_39) _ ?_
    rw [len_of Sz31 Nn31]
    refine XS.icmpNo X28.here hx rfl (hb hy d36_40) rfl (tlt (by decide : o0 < o2)).2.1 ?_
    refine xaloadN X28 hx hy d36_43 rfl rfl ?_
    refine xaloadN X28 hx hy d36_44 rfl rfl ?_
    refine st32 _ ?_
    refine xiloadN X32 hx hy d36_48 rfl ?_
    refine own_laJ X32 hx hZ e32 fc24 (v := (.long q7)) (by decide) rfl (hb hy d36_49) ?_
    refine xaloadN X32 hx hy d36_50 rfl rfl ?_
    refine st34 _ ?_
    refine xiload X34 hx hy d36_54 rfl ?_
    refine own_laJ X34 hx hZ e34 fc30 (v := (.long q14)) (by decide) rfl (hb hy d36_56) ?_
    refine st36 _ ?_
    refine xaloadN X36 hx hy d36_60 rfl rfl ?_
    refine st39 _ ?_
    refine xiloadN X39 hx hy d36_64 rfl ?_
    refine own_laJ X39 hx hZ e39 fc43 (v := (.long q40)) (by decide) rfl (hb hy d36_65) ?_
    refine xaloadN X39 hx hy d36_66 rfl rfl ?_
    refine st47 _ ?_
    refine xiload X47 hx hy d36_70 rfl ?_
    refine own_laJ X47 hx hZ e47 fc52 (v := (.long q48)) (by decide) rfl (hb hy d36_72) ?_
    refine st54 _ ?_
    refine st55 _ ?_
    refine xaloadN X55 hx hy d36_79 rfl rfl ?_
    refine st57 _ ?_
    refine xiloadN X57 hx hy d36_83 rfl ?_
    refine own_laJ X57 hx hZ e57 fc43 (v := (.long q40)) (by decide) rfl (hb hy d36_84) ?_
    refine xaloadN X57 hx hy d36_85 rfl rfl ?_
    refine st59 _ ?_
    show SS p e below T59 m 89 #[rv a1, rv a2, rv b3, iv o0, iv o0] [(.ref a45), (.long q40)] _
    refine xiload X59 hx hy d36_89 rfl ?_
    refine own_laJ X59 hx hZ e59 fc52 (v := (.long q48)) (by decide) rfl (hb hy d36_91) ?_
    refine XS.lcmp X59.here hx rfl (hb hy d36_92) rfl ?_
    refine XS.ifYes X59.here hx rfl (pc0 := 93) (pc' := 102) rfl (hb hy d36_93) rfl ((if0 _ _).trans (flt ((fun z => pr10 ((lw_lt q40 q48).mp z)) : ¬ ((lcmpW q40 q48) < o0))).2.1) (by decide) (by decide) ?_
    refine XS.iinc X59.here hx rfl (hb hy d36_102) rfl (l' := #[rv a1, rv a2, rv b3, iv o0, .val (.int (o0 + o1))]) rfl ?_
    refine XS.goto X59.here hx rfl (pc0 := 105) (pc' := 24) rfl (hb hy d36_105) (by decide) (by decide) ?_
    refine xiloadN X59 hx hy d36_24 rfl ?_
    refine xaloadN X59 hx hy d36_25 rfl rfl ?_
    refine st61 _ ?_
    refine X61.arraylength hx (by rw [e61]; exact Ar62.1) (State.isArrayOf_alike hZ.alike Ar62.2.1) (g := (mkF m 29 #[rv a1, rv a2, rv b3, iv o0, iv o1] [(.ref a4), vi0])) rfl rfl (hb hy d36_29) _ ?_
    rw [len_of Sz62 Nn62]
    refine XS.icmpNo X61.here hx rfl (hb hy d36_30) rfl (tlt (by decide : o0 < o1)).2.1 ?_
    refine xiload X61 hx hy d36_33 rfl ?_
    refine xaloadN X61 hx hy d36_35 rfl rfl ?_
    refine st63 _ ?_
    refine X63.arraylength hx (by rw [e63]; exact Ar64.1) (State.isArrayOf_alike hZ.alike Ar64.2.1) (g := (mkF m 39 #[rv a1, rv a2, rv b3, iv o0, iv o1] [(.ref a11), vi1])) rfl rfl (hb hy d36_39) _ ?_
    rw [len_of Sz64 Nn64]
    refine XS.icmpNo X63.here hx rfl (hb hy d36_40) rfl (tlt (by decide : o1 < o2)).2.1 ?_
    refine xaloadN X63 hx hy d36_43 rfl rfl ?_
    refine xaloadN X63 hx hy d36_44 rfl rfl ?_
    refine st65 _ ?_
    refine xiloadN X65 hx hy d36_48 rfl ?_
    refine own_laJ X65 hx hZ e65 fc24 (v := (.long q7)) (by decide) rfl (hb hy d36_49) ?_
    refine xaloadN X65 hx hy d36_50 rfl rfl ?_
    refine st67 _ ?_
    refine xiload X67 hx hy d36_54 rfl ?_
    refine own_laJ X67 hx hZ e67 fc30 (v := (.long q15)) (by decide) rfl (hb hy d36_56) ?_
    refine st69 _ ?_
    refine xaloadN X69 hx hy d36_60 rfl rfl ?_
    refine st70 _ ?_
    refine xiloadN X70 hx hy d36_64 rfl ?_
    refine own_laJ X70 hx hZ e70 fc43 (v := (.long q40)) (by decide) rfl (hb hy d36_65) ?_
    refine xaloadN X70 hx hy d36_66 rfl rfl ?_
    refine st72 _ ?_
    refine xiload X72 hx hy d36_70 rfl ?_
    refine own_laJ X72 hx hZ e72 fc52 (v := (.long q49)) (by decide) rfl (hb hy d36_72) ?_
    refine st74 _ ?_
    refine st75 _ ?_
    refine xaloadN X75 hx hy d36_79 rfl rfl ?_
    refine st76 _ ?_
    refine xiloadN X76 hx hy d36_83 rfl ?_
    refine own_laJ X76 hx hZ e76 fc43 (v := (.long q40)) (by decide) rfl (hb hy d36_84) ?_
    refine xaloadN X76 hx hy d36_85 rfl rfl ?_
    refine st78 _ ?_
    refine xiload X78 hx hy d36_89 rfl ?_
    refine own_laJ X78 hx hZ e78 fc52 (v := (.long q49)) (by decide) rfl (hb hy d36_91) ?_
    refine XS.lcmp X78.here hx rfl (hb hy d36_92) rfl ?_
    refine XS.ifNo X78.here hx rfl (hb hy d36_93) rfl ((if0 _ _).trans (tlt (((lw_lt q40 q49).mpr pr12) : (lcmpW q40 q49) < o0)).2.1) ?_
    refine XS.iinc X78.here hx rfl (hb hy d36_96) rfl (l' := #[rv a1, rv a2, rv b3, .val (.int (o0 + o1)), iv o1]) rfl ?_
    refine XS.goto X78.here hx rfl (pc0 := 99) (pc' := 24) rfl (hb hy d36_99) (by decide) (by decide) ?_
    refine xiloadN X78 hx hy d36_24 rfl ?_
    refine xaloadN X78 hx hy d36_25 rfl rfl ?_
    refine st80 _ ?_
    refine X80.arraylength hx (by rw [e80]; exact Ar81.1) (State.isArrayOf_alike hZ.alike Ar81.2.1) (g := (mkF m 29 #[rv a1, rv a2, rv b3, iv o1, iv o1] [(.ref a4), vi1])) rfl rfl (hb hy d36_29) _ ?_
    rw [len_of Sz81 Nn81]
    refine XS.icmpYes X80.here hx rfl (pc0 := 30) (pc' := 108) rfl (hb hy d36_30) rfl (flt (by decide : ¬ (o1 < o1))).2.1 (by decide) (by decide) ?_
    refine xaloadN X80 hx hy d36_108 rfl rfl ?_
    refine st83 _ ?_
    show SS p e below T83 m 112 #[rv a1, rv a2, rv b3, iv o1, iv o1] [(.ref w82)] _
    exact own_retR X83 hx hret rfl rfl rfl (hb hy d36_112) hr
  · exact ⟨rfl, N83, KK19⟩
theorem rm29_5 (l : Launch) (Z : State) (a0 : Array Value) (hw : HW a0 Z) (a1 : Addr) (p2 : Int32) (a3 a4 a6 : Addr) (k7 : ClassId) (a11 : Addr) (q12 : Int64) (k13 : ClassId) (a14 : Addr) (q15 q16 : Int64) (k17 : ClassId) (a18 : Addr) (q19 : Int64) (k20 : ClassId) (a21 : Addr) (q22 q23 : Int64) (k24 : ClassId) (w25 : Addr) (p27 : Int32) (a35 a38 : Addr) (p41 : Int32) (h0 : Heap) (n0 : Nat) (OL0 : Old Z n0 h0) (pr1 : Fld Z h0 a1 s45 "sets" s8 (.ref a4)) (pr2 : Asl Z h0 a4 k7 tV o12 p2 (.ref a6)) (pr3 : Fld Z h0 a6 s43 "lows" "[J" (.ref a11)) (pr4 : Arv Z h0 a11 k13 .long o1 [(.long q12)] lj0) (pr5 : Fld Z h0 a3 s43 "lows" "[J" (.ref a14)) (pr6 : Arv Z h0 a14 k17 .long o2 [(.long q15), (.long q16)] lj0) (pr7 : Fld Z h0 a6 s43 "highs" "[J" (.ref a18)) (pr8 : Arv Z h0 a18 k20 .long o1 [(.long q19)] lj0) (pr9 : Fld Z h0 a3 s43 "highs" "[J" (.ref a21)) (pr10 : Arv Z h0 a21 k24 .long o2 [(.long q22), (.long q23)] lj0) (pr11 : (own_jmin q19 q22) < (own_jmax q12 q15)) (pr12 : ¬ (q19 < q22)) (pr13 : (own_jmin q19 q23) < (own_jmax q12 q16)) (pr14 : q19 < q23) (pr15 : Sta Z Z.heap s32 "EMPTY" s6 (.ref w25)) (pr16 : Exa Z h0 a6 s43) (pr17 : Fld Z h0 a1 s45 s15 "Z" (.int p27)) (pr18 : Fld Z Z.heap w25 s32 "value" s3 .null) (pr19 : Exa Z Z.heap w25 s32) (pr20 : Exa Z h0 a1 s45) (pr21 : n0 ≤ a1) (pr22 : Fld Z h0 a1 s45 s11 s5 (.ref a35)) (pr23 : Fld Z h0 a1 s45 s16 s5 (.ref a38)) (pr24 : Fld Z h0 a1 s45 s48 "Z" (.int p41)) :
    MF l Z mn29 prog_66_method_2_code 4 none ⟨3, 4, 11, 3075⟩ #[(.ref a1), (.int p2), (.ref a3)] h0 (fun v h L => v = none ∧ Fr n0 L ∧ Keep h0 h [a1] ∧ Fld Z h a1 s45 "sets" s8 (.ref a4) ∧ Fld Z h a1 s45 s15 "Z" (.int (nar .boolean (p27 ||| o1))) ∧ Fld Z h a1 s45 s11 s5 (.ref a35) ∧ Fld Z h a1 s45 s16 s5 (.ref a38) ∧ Fld Z h a1 s45 s48 "Z" (.int p41)) := by
  refine own_startN (plainFor_of_name pn_7) (fun m => (ef_29_12 m a1 p2 a3)) ?_
  intro p e s m below meth c s₁ hZ hx hy hml ho hnm hnamed hret X0 e0
  have N0 := Fr.nil n0
  obtain ⟨T5, X5, e5, st5⟩ := gF X0 hx hZ ho (wd68 hw) Via.refl e0 pr1 1 #[rv a1, iv p2, rv a3, uu] [] (hb hy d29_1)
  obtain ⟨T9, X9, e9, st9⟩ := gF X5 hx hZ ho (wd68 hw) Via.refl e5 pr1 18 #[rv a1, iv p2, rv a3, uu] [] (hb hy d29_18)
  obtain ⟨_, T26, L26, X26, hQ26, st26⟩ := own_cV X9 hx hZ ho hml (cw44 hw) (rm36_4 l Z a0 hw a6 a3 a11 q12 k13 a14 q15 q16 k17 a18 q19 k20 a21 q22 q23 k24 w25 h0 n0 OL0 pr3 pr4 pr5 pr6 pr7 pr8 pr9 pr10 pr11 pr12 pr13 pr14 pr15) e9 pr16 24 #[rv a1, iv p2, rv a3, uu] [(.ref a3)] [] 0 rfl (hb hy d29_24) (by decide)
  obtain ⟨rfl, Nq26, K26⟩ := hQ26
  have KK26 : Keep h0 T26.heap [a1] := (Keep.refl h0 [a1]).trans K26 all0
  have OL26 := OL0.keep K26 all0
  have N26 := Fr.app N0 Nq26
  have fc28 := (pr17.keep K26 nin0)
  obtain ⟨T29, X29, e29, st29⟩ := gF X26 hx hZ ho (wd190 hw) Via.refl rfl fc28 30 #[rv a1, iv p2, rv a3, rv w25] [(.ref a1)] (hb hy d29_30)
  obtain ⟨_, T30, L30, X30, hQ30, st30⟩ := own_cV X29 hx hZ ho hml (cw37 hw) (rm26_1 l Z a0 hw w25 T26.heap n0 OL26 pr18) e29 (pr19.ext OL26.2) 34 #[rv a1, iv p2, rv a3, rv w25] [] [(.int p27), (.ref a1)] 2 rfl (hb hy d29_34) (by decide)
  obtain ⟨rfl, Nq30, ec30⟩ := hQ30
  have N30 := Fr.app N26 Nq30
  have fc31 := (pr20.keep K26)
  obtain ⟨T32, h32, X32, e32, W32, st32⟩ := putFN X30 hx hZ ho (wd190 hw) Via.refl ec30 fc28 fc31 (Or.inl (wd191 hw)) (wd46 hw) (ty := .boolean) (v' := (.int (nar .boolean (p27 ||| o1)))) (by decide) rfl (fits_nar_bool _) (g := (mkF m 38 #[rv a1, iv p2, rv a3, rv w25] [(.int (p27 ||| o1)), (.ref a1)])) rfl rfl (hb hy d29_38)
  have Fw32 := fc28.same W32
  have KK32 : Keep h0 h32 [a1] := KK26.wr W32 (Or.inl (List.mem_of_getElem? (i := 0) rfl))
  have OL32 := OL26.wr W32 pr21
  have N32 := Fr.snoc X32 N30 pr21
  obtain ⟨T33, h33, X33, e33, E33, LM33, st33⟩ := own_mk X32 hx hZ hml hnamed (wd282 hw) (wd200 hw) own_lok0 rfl rfl e32 a1 p2 #[rv a1, iv p2, rv a3, rv w25] [(.ref w25)] rfl (hb hy d29_44) (by decide) (by decide) (W := 1) rfl (by decide)
  obtain ⟨b33, g33⟩ : ∃ z, z = h32.size := ⟨_, rfl⟩
  rw [← g33] at LM33 st33
  have KK33 : Keep h0 h33 [a1] := KK32.ext E33
  have OL33 := OL32.ext E33
  obtain ⟨_, T34, L34, X34, hQ34, st34⟩ := own_cV X33 hx hZ ho hml (cw39 hw) (rm27_1 l Z a0 hw w25 b33 h33 n0 OL33 pr18) e33 (pr19.ext OL33.2) 49 #[rv a1, iv p2, rv a3, rv w25] [(.ref b33)] [] 0 rfl (hb hy d29_49) (by decide)
  obtain ⟨rfl, Nq34, ec34⟩ := hQ34
  have N34 := Fr.app N32 Nq34
  have fc36 := (((pr22.keep K26 nin0).other W32 (Or.inr (slot_ne (Or.inr (wd97 hw)) (Or.inl (wd191 hw)) (by decide) (t := (.object s30)) (t' := .boolean) (by decide) (by decide)))).ext E33)
  have fc37 := (Fw32.ext E33)
  have fc39 := (((pr23.keep K26 nin0).other W32 (Or.inr (slot_ne (Or.inr (wd95 hw)) (Or.inl (wd191 hw)) (by decide) (t := (.object s30)) (t' := .boolean) (by decide) (by decide)))).ext E33)
  have fc40 := (((pr1.keep K26 nin0).other W32 (Or.inr (slot_ne (Or.inr (wd69 hw)) (Or.inl (wd191 hw)) (by decide) (t := (.array tV)) (t' := .boolean) (by decide) (by decide)))).ext E33)
  have fc42 := (((pr24.keep K26 nin0).other W32 (Or.inr (slot_ne (Or.inl (wd104 hw)) (Or.inl (wd191 hw)) (by decide) (t := .boolean) (t' := .boolean) (by decide) (by decide)))).ext E33)
  refine ⟨none, _, _, _, _, _, X34, ec34, by decide, fun _ => rfl, fun fs hr => ?_, ?_⟩
  · refine xaloadN X0 hx hy d29_0 rfl rfl ?_
    refine st5 _ ?_
    refine xiloadN X5 hx hy d29_4 rfl ?_
    refine own_lA X5 hx hZ e5 pr2 rfl (hb hy d29_5) ?_
    refine XS.ifnonnullYes X5.here hx rfl (pc0 := 6) (pc' := 17) rfl (hb hy d29_6) rfl (by decide) (by decide) ?_
    refine xaloadN X5 hx hy d29_17 rfl rfl ?_
    refine st9 _ ?_
    refine xiloadN X9 hx hy d29_21 rfl ?_
    refine own_lA X9 hx hZ e9 pr2 rfl (hb hy d29_22) ?_
    refine xaloadN X9 hx hy d29_23 rfl rfl ?_
    refine st26 _ ?_
    refine XS.astoreN X26.here hx rfl (hb hy d29_27) rfl rfl (l' := #[rv a1, iv p2, rv a3, rv w25]) rfl ?_
    refine xaloadN X26 hx hy d29_28 rfl rfl ?_
    refine XS.dup X26.here hx rfl (hb hy d29_29) rfl rfl ?_
    refine st29 _ ?_
    refine xaloadN X29 hx hy d29_33 rfl rfl ?_
    refine st30 _ ?_
    refine XS.ior X30.here hx rfl (hb hy d29_37) rfl ?_
    refine st32 _ ?_
    refine xaloadN X32 hx hy d29_41 rfl rfl ?_
    refine xaloadN X32 hx hy d29_42 rfl rfl ?_
    refine xiloadN X32 hx hy d29_43 rfl ?_
    refine st33 _ ?_
    refine st34 _ ?_
    show SS p e below T34 m 52 #[rv a1, iv p2, rv a3, rv w25] [] _
    exact X34.returnOut hx hret (hb hy d29_52) hr
  · exact ⟨rfl, N34, KK33, fc40, fc37, fc36, fc39, fc42⟩
theorem rm28_3 (l : Launch) (Z : State) (a0 : Array Value) (hw : HW a0 Z) (a1 : Addr) (p2 : Int32) (a3 a4 a5 : Addr) (k6 : ClassId) (a7 : Addr) (q8 : Int64) (k9 : ClassId) (a10 : Addr) (q11 q12 : Int64) (k13 : ClassId) (a14 : Addr) (q15 : Int64) (k16 : ClassId) (a17 : Addr) (q18 q19 : Int64) (k20 : ClassId) (w21 : Addr) (p22 : Int32) (a23 a24 : Addr) (p25 : Int32) (h0 : Heap) (n0 : Nat) (OL0 : Old Z n0 h0) (pr1 : Fld Z h0 a1 s45 "sets" s8 (.ref a4)) (pr2 : Asl Z h0 a4 k6 tV o12 p2 (.ref a5)) (pr3 : Fld Z h0 a5 s43 "lows" "[J" (.ref a7)) (pr4 : Arv Z h0 a7 k9 .long o1 [(.long q8)] lj0) (pr5 : Fld Z h0 a3 s43 "lows" "[J" (.ref a10)) (pr6 : Arv Z h0 a10 k13 .long o2 [(.long q11), (.long q12)] lj0) (pr7 : Fld Z h0 a5 s43 "highs" "[J" (.ref a14)) (pr8 : Arv Z h0 a14 k16 .long o1 [(.long q15)] lj0) (pr9 : Fld Z h0 a3 s43 "highs" "[J" (.ref a17)) (pr10 : Arv Z h0 a17 k20 .long o2 [(.long q18), (.long q19)] lj0) (pr11 : (own_jmin q15 q18) < (own_jmax q8 q11)) (pr12 : ¬ (q15 < q18)) (pr13 : (own_jmin q15 q19) < (own_jmax q8 q12)) (pr14 : q15 < q19) (pr15 : Sta Z Z.heap s32 "EMPTY" s6 (.ref w21)) (pr16 : Exa Z h0 a5 s43) (pr17 : Fld Z h0 a1 s45 s15 "Z" (.int p22)) (pr18 : Fld Z Z.heap w21 s32 "value" s3 .null) (pr19 : Exa Z Z.heap w21 s32) (pr20 : Exa Z h0 a1 s45) (pr21 : n0 ≤ a1) (pr22 : Fld Z h0 a1 s45 s11 s5 (.ref a23)) (pr23 : Fld Z h0 a1 s45 s16 s5 (.ref a24)) (pr24 : Fld Z h0 a1 s45 s48 "Z" (.int p25)) :
    MF l Z mn28 prog_66_method_13_code 3 none ⟨4, 4, 11, 3090⟩ #[(.ref a1), (.int p2), (.ref a3)] h0 (fun v h L => v = none ∧ Fr n0 L ∧ Keep h0 h [a1] ∧ Fld Z h a1 s45 "sets" s8 (.ref a4) ∧ Fld Z h a1 s45 s15 "Z" (.int (nar .boolean (p22 ||| o1))) ∧ Fld Z h a1 s45 s11 s5 (.ref a23) ∧ Fld Z h a1 s45 s16 s5 (.ref a24) ∧ Fld Z h a1 s45 s48 "Z" (.int p25)) := by
  refine own_start (plainFor_of_name pn_7) (fun m => (ef_28_37 m a1 p2 a3)) ?_
  intro p e s m below meth c s₁ hZ hx hy hml ho hnm hret X0 e0
  have N0 := Fr.nil n0
  obtain ⟨_, T26, L26, X26, hQ26, st26⟩ := own_cV X0 hx hZ ho hml (cw38 hw) (rm29_5 l Z a0 hw a1 p2 a3 a4 a5 k6 a7 q8 k9 a10 q11 q12 k13 a14 q15 k16 a17 q18 q19 k20 w21 p22 a23 a24 p25 h0 n0 OL0 pr1 pr2 pr3 pr4 pr5 pr6 pr7 pr8 pr9 pr10 pr11 pr12 pr13 pr14 pr15 pr16 pr17 pr18 pr19 pr20 pr21 pr22 pr23 pr24) e0 pr20 3 #[rv a1, iv p2, rv a3] [(.int p2), (.ref a3)] [] 0 rfl (hb hy d28_3) (by decide)
  obtain ⟨rfl, Nq26, K26, u26_0, u26_1, u26_2, u26_3, u26_4⟩ := hQ26
  have KK26 : Keep h0 T26.heap [a1] := (Keep.refl h0 [a1]).trans K26 (allS (Or.inl (List.mem_of_getElem? (i := 0) rfl)) all0)
  have N26 := Fr.app N0 Nq26
  refine ⟨none, _, _, _, _, _, X26, rfl, by decide, fun _ => rfl, fun fs hr => ?_, ?_⟩
  · refine xaloadN X0 hx hy d28_0 rfl rfl ?_
    refine xiloadN X0 hx hy d28_1 rfl ?_
    refine xaloadN X0 hx hy d28_2 rfl rfl ?_
    refine st26 _ ?_
    show SS p e below T26 m 6 #[rv a1, iv p2, rv a3] [] _
    exact X26.returnOut hx hret (hb hy d28_6) hr
  · exact ⟨rfl, N26, KK26, u26_0, u26_1, u26_2, u26_3, u26_4⟩
theorem rm27_5 (l : Launch) (Z : State) (a0 : Array Value) (hw : HW a0 Z) (a1 a2 a3 a6 : Addr) (p7 : Int32) (a8 a9 : Addr) (k10 : ClassId) (a11 : Addr) (q12 : Int64) (k13 : ClassId) (a14 : Addr) (q15 q16 : Int64) (k17 : ClassId) (a18 : Addr) (q19 : Int64) (k20 : ClassId) (a21 : Addr) (q22 q23 : Int64) (k24 : ClassId) (w25 : Addr) (p26 : Int32) (a27 a28 : Addr) (p29 : Int32) (h0 : Heap) (n0 : Nat) (OL0 : Old Z n0 h0) (pr1 : Fld Z h0 a1 s32 "value" s3 (.ref a3)) (pr2 : LamF Z h0 a2 (sgm s34) a6 p7) (pr3 : Fld Z h0 a6 s45 "sets" s8 (.ref a8)) (pr4 : Asl Z h0 a8 k10 tV o12 p7 (.ref a9)) (pr5 : Fld Z h0 a9 s43 "lows" "[J" (.ref a11)) (pr6 : Arv Z h0 a11 k13 .long o1 [(.long q12)] lj0) (pr7 : Fld Z h0 a3 s43 "lows" "[J" (.ref a14)) (pr8 : Arv Z h0 a14 k17 .long o2 [(.long q15), (.long q16)] lj0) (pr9 : Fld Z h0 a9 s43 "highs" "[J" (.ref a18)) (pr10 : Arv Z h0 a18 k20 .long o1 [(.long q19)] lj0) (pr11 : Fld Z h0 a3 s43 "highs" "[J" (.ref a21)) (pr12 : Arv Z h0 a21 k24 .long o2 [(.long q22), (.long q23)] lj0) (pr13 : (own_jmin q19 q22) < (own_jmax q12 q15)) (pr14 : ¬ (q19 < q22)) (pr15 : (own_jmin q19 q23) < (own_jmax q12 q16)) (pr16 : q19 < q23) (pr17 : Sta Z Z.heap s32 "EMPTY" s6 (.ref w25)) (pr18 : Exa Z h0 a9 s43) (pr19 : Fld Z h0 a6 s45 s15 "Z" (.int p26)) (pr20 : Fld Z Z.heap w25 s32 "value" s3 .null) (pr21 : Exa Z Z.heap w25 s32) (pr22 : Exa Z h0 a6 s45) (pr23 : n0 ≤ a6) (pr24 : Fld Z h0 a6 s45 s11 s5 (.ref a27)) (pr25 : Fld Z h0 a6 s45 s16 s5 (.ref a28)) (pr26 : Fld Z h0 a6 s45 s48 "Z" (.int p29)) (pr27 : Exa Z h0 a3 s43) :
    MF l Z mn27 jdk_32_method_8_code 2 none ⟨6, 4, 11, 3117⟩ #[(.ref a1), (.ref a2)] h0 (fun v h L => v = none ∧ Fr n0 L ∧ Keep h0 h [a6] ∧ Fld Z h a6 s45 "sets" s8 (.ref a8) ∧ Fld Z h a6 s45 s15 "Z" (.int (nar .boolean (p26 ||| o1))) ∧ Fld Z h a6 s45 s11 s5 (.ref a27) ∧ Fld Z h a6 s45 s16 s5 (.ref a28) ∧ Fld Z h a6 s45 s48 "Z" (.int p29)) := by
  refine own_start (plainFor_of_name pn_14) (fun m => (ef_27_38 m a1 a2)) ?_
  intro p e s m below meth c s₁ hZ hx hy hml ho hnm hret X0 e0
  have N0 := Fr.nil n0
  obtain ⟨T4, X4, e4, st4⟩ := gF X0 hx hZ ho (wd188 hw) Via.refl e0 pr1 1 #[rv a1, rv a2] [] (hb hy d27_1)
  obtain ⟨T5, X5, e5, st5⟩ := gF X4 hx hZ ho (wd188 hw) Via.refl e4 pr1 9 #[rv a1, rv a2] [(.ref a2)] (hb hy d27_9)
  obtain ⟨_, T30, L30, X30, hQ30, st30⟩ := own_cL X5 hx hZ ho hml (cl1 hw) (rm28_3 l Z a0 hw a6 p7 a3 a8 a9 k10 a11 q12 k13 a14 q15 q16 k17 a18 q19 k20 a21 q22 q23 k24 w25 p26 a27 a28 p29 h0 n0 OL0 pr3 pr4 pr5 pr6 pr7 pr8 pr9 pr10 pr11 pr12 pr13 pr14 pr15 pr16 pr17 pr18 pr19 pr20 pr21 pr22 pr23 pr24 pr25 pr26) e5 pr2 pr22 pr27 12 #[rv a1, rv a2] [] 0 rfl (hb hy d27_12) (by decide) (by rintro _ _ _ ⟨q, -⟩; exact q)
  obtain ⟨rfl, Nq30, K30, u30_0, u30_1, u30_2, u30_3, u30_4⟩ := hQ30
  have KK30 : Keep h0 T30.heap [a6] := (Keep.refl h0 [a6]).trans K30 (allS (Or.inl (List.mem_of_getElem? (i := 0) rfl)) all0)
  have N30 := Fr.app N0 Nq30
  refine ⟨none, _, _, _, _, _, X30, rfl, by decide, fun _ => rfl, fun fs hr => ?_, ?_⟩
  · refine xaloadN X0 hx hy d27_0 rfl rfl ?_
    refine st4 _ ?_
    refine XS.ifnullNo X4.here hx rfl (hb hy d27_4) rfl ?_
    refine xaloadN X4 hx hy d27_7 rfl rfl ?_
    refine xaloadN X4 hx hy d27_8 rfl rfl ?_
    refine st5 _ ?_
    refine st30 _ ?_
    show SS p e below T30 m 17 #[rv a1, rv a2] [] _
    exact X30.returnOut hx hret (hb hy d27_17) hr
  · exact ⟨rfl, N30, KK30, u30_0, u30_1, u30_2, u30_3, u30_4⟩
theorem rm14_8 (l : Launch) (Z : State) (a0 : Array Value) (hw : HW a0 Z) (a1 : Addr) (p2 : Int32) (a3 w4 w6 w7 : Addr) (k8 : ClassId) (q11 : Int64) (a13 : Addr) (q14 : Int64) (k15 : ClassId) (a16 : Addr) (q17 : Int64) (k18 : ClassId) (p24 : Int32) (a31 : Addr) (k32 : ClassId) (w33 a34 a35 : Addr) (p36 : Int32) (h0 : Heap) (n0 : Nat) (OL0 : Old Z n0 h0) (pr1 : Sta Z Z.heap s45 s2 s5 (.ref w4)) (pr2 : Fld Z Z.heap w4 s29 s13 s7 (.ref w6)) (pr3 : Asl Z Z.heap w6 k8 (.object s20) o12 p2 (.ref w7)) (pr4 : Exa Z Z.heap w4 s29) (pr5 : Exa Z Z.heap w7 s42) (pr6 : Fld Z Z.heap w7 s42 "low" "J" lj0) (pr7 : Fld Z Z.heap w7 s42 "high" "J" (.long q11)) (pr8 : ¬ (q11 < oj0)) (pr9 : ¬ ((281474976710656 : Int64) < q11)) (pr10 : Fld Z h0 a3 s43 "lows" "[J" (.ref a13)) (pr11 : Arv Z h0 a13 k15 .long o1 [(.long q14)] lj0) (pr12 : Fld Z h0 a3 s43 "highs" "[J" (.ref a16)) (pr13 : Arv Z h0 a16 k18 .long o1 [(.long q17)] lj0) (pr14 : ¬ (q17 < oj0)) (pr15 : ¬ (q11 < q14)) (pr16 : ¬ ((q14 - (1 : Int64)) < oj0)) (pr17 : ¬ (q11 < (q17 + (1 : Int64)))) (pr18 : Fld Z h0 a1 s45 s15 "Z" (.int p24)) (pr19 : Exa Z h0 a1 s45) (pr20 : n0 ≤ a1) (pr21 : Fld Z h0 a1 s45 "sets" s8 (.ref a31)) (pr22 : Asl Z h0 a31 k32 tV o12 p2 (.ref a3)) (pr23 : a31 ≠ a1) (pr24 : a3 ≠ a1) (pr25 : a13 ≠ a1) (pr26 : a16 ≠ a1) (pr27 : (own_jmin q17 (q14 - (1 : Int64))) < (own_jmax q14 oj0)) (pr28 : ¬ (q17 < (q14 - (1 : Int64)))) (pr29 : (own_jmin q17 q11) < (own_jmax q14 (q17 + (1 : Int64)))) (pr30 : q17 < q11) (pr31 : Sta Z Z.heap s32 "EMPTY" s6 (.ref w33)) (pr32 : Exa Z h0 a3 s43) (pr33 : Fld Z Z.heap w33 s32 "value" s3 .null) (pr34 : Exa Z Z.heap w33 s32) (pr35 : Fld Z h0 a1 s45 s11 s5 (.ref a34)) (pr36 : Fld Z h0 a1 s45 s16 s5 (.ref a35)) (pr37 : Fld Z h0 a1 s45 s48 "Z" (.int p36)) :
    MF l Z mn14 prog_66_method_6_code 4 none ⟨7, 15, 31, 3130⟩ #[(.ref a1), (.int p2), (.ref a3)] h0 (fun v h L => v = none ∧ Fr n0 L ∧ Keep h0 h [a1] ∧ Fld Z h a1 s45 s15 "Z" (.int (nar .boolean ((nar .boolean (p24 ||| o0)) ||| o1))) ∧ Fld Z h a1 s45 "sets" s8 (.ref a31) ∧ Fld Z h a1 s45 s11 s5 (.ref a34) ∧ Fld Z h a1 s45 s16 s5 (.ref a35) ∧ Fld Z h a1 s45 s48 "Z" (.int p36)) := by
  refine own_startN (plainFor_of_name pn_7) (fun m => (ef_14_39 m a1 p2 a3)) ?_
  intro p e s m below meth c s₁ hZ hx hy hml ho hnm hnamed hret X0 e0
  have N0 := Fr.nil n0
  obtain ⟨T5, X5, e5, st5⟩ := getS2 X0 hx hZ ho (host := "") (Or.inl (wd52 hw)) Via.refl e0 (pr1.ext OL0.2) (g := (mkF m 0 #[rv a1, iv p2, rv a3, uu] [])) rfl (hb hy d14_0)
  obtain ⟨_, T9, L9, X9, hQ9, st9⟩ := own_cI X5 hx hZ ho hml (cw24 hw) (rm15_0 l Z a0 hw w4 p2 w6 w7 k8 h0 n0 OL0 pr2 pr3) e5 (pr4.ext OL0.2) 4 #[rv a1, iv p2, rv a3, uu] [(.int p2)] [] 0 rfl (hb hy d14_4) (by decide)
  obtain ⟨rfl, Nq9, ec9⟩ := hQ9
  have N9 := Fr.app N0 Nq9
  obtain ⟨T10, X10, e10, st10⟩ := castY X9 hx hZ ho (wd118 hw) ec9 (Ins.self (pr5.ext OL0.2)) (g := (mkF m 9 #[rv a1, iv p2, rv a3, uu] [(.ref w7)])) rfl rfl (hb hy d14_9)
  obtain ⟨_, T12, L12, X12, hQ12, st12⟩ := own_cV X10 hx hZ ho hml (cw26 hw) (rm16_0 l Z a0 hw w7 q11 h0 n0 OL0 pr6 pr7 pr8 pr9) e10 (pr5.ext OL0.2) 12 #[rv a1, iv p2, rv a3, uu] [] [] 0 rfl (hb hy d14_12) (by decide)
  obtain ⟨b12_0, b12_1, b12_2, kx12_0, kx12_1, rfl, Nq12, K12, u12_0, u12_1, u12_2, u12_3, u12_4, u12_5, u12_6, u12_7, u12_8, u12_9, u12_10, u12_11, u12_12⟩ := hQ12
  have KK12 : Keep h0 T12.heap [a1] := (Keep.refl h0 [a1]).trans K12 all0
  have OL12 := OL0.keep K12 all0
  have N12 := Fr.app N9 Nq12
  have fc20 := (pr10.keep K12 nin0)
  have fc21 := (pr11.keep K12 nin0)
  have fc22 := (pr12.keep K12 nin0)
  have fc23 := (pr13.keep K12 nin0)
  obtain ⟨_, T19, L19, X19, hQ19, st19⟩ := own_cV X12 hx hZ ho hml (cw36 hw) (rm17_4 l Z a0 hw b12_0 a3 b12_1 oj0 kx12_0 a13 q14 k15 a16 q17 k18 b12_2 q11 kx12_1 T12.heap n0 OL12 u12_7 u12_9 fc20 fc21 fc22 fc23 pr14 u12_8 u12_11 pr15 pr8 pr16 pr17) rfl u12_6 16 #[rv a1, iv p2, rv a3, uu] [(.ref a3)] [] 0 rfl (hb hy d14_16) (by decide)
  obtain ⟨b19_0, b19_1, b19_2, b19_3, kx19_0, kx19_1, rfl, Nq19, K19, u19_0, u19_1, u19_2, u19_3, u19_4, u19_5, u19_6, u19_7, u19_8, u19_9, u19_10, u19_11, u19_12, u19_13, u19_14, u19_15, u19_16, u19_17, u19_18⟩ := hQ19
  have KK19 : Keep h0 T19.heap [a1] := KK12.trans K19 all0
  have OL19 := OL12.keep K19 all0
  have sz_b19_0 : h0.size ≤ b19_0 := Nat.le_trans KK12.1 u19_0
  have sz_b19_1 : h0.size ≤ b19_1 := Nat.le_trans KK12.1 u19_1
  have sz_b19_2 : h0.size ≤ b19_2 := Nat.le_trans KK12.1 u19_2
  have sz_b19_3 : h0.size ≤ b19_3 := Nat.le_trans KK12.1 u19_3
  have N19 := Fr.app N12 Nq19
  have fc25 := ((pr18.keep K12 nin0).keep K19 nin0)
  obtain ⟨T26, X26, e26, st26⟩ := gF X19 hx hZ ho (wd190 hw) Via.refl rfl fc25 22 #[rv a1, iv p2, rv a3, rv b19_0] [(.ref a1)] (hb hy d14_22)
  obtain ⟨_, T27, L27, X27, hQ27, st27⟩ := own_cV X26 hx hZ ho hml (cw37 hw) (rm26_0 l Z a0 hw b19_0 b19_1 T19.heap n0 OL19 u19_11) e26 u19_10 26 #[rv a1, iv p2, rv a3, rv b19_0] [] [(.int p24), (.ref a1)] 2 rfl (hb hy d14_26) (by decide)
  obtain ⟨rfl, Nq27, ec27⟩ := hQ27
  have N27 := Fr.app N19 Nq27
  have fc28 := ((pr19.keep K12).keep K19)
  obtain ⟨T29, h29, X29, e29, W29, st29⟩ := putFN X27 hx hZ ho (wd190 hw) Via.refl ec27 fc25 fc28 (Or.inl (wd191 hw)) (wd46 hw) (ty := .boolean) (v' := (.int (nar .boolean (p24 ||| o0)))) (by decide) rfl (fits_nar_bool _) (g := (mkF m 30 #[rv a1, iv p2, rv a3, rv b19_0] [(.int (p24 ||| o0)), (.ref a1)])) rfl rfl (hb hy d14_30)
  have Fw29 := fc25.same W29
  have KK29 : Keep h0 h29 [a1] := KK19.wr W29 (Or.inl (List.mem_of_getElem? (i := 0) rfl))
  have OL29 := OL19.wr W29 pr20
  have N29 := Fr.snoc X29 N27 pr20
  obtain ⟨T30, h30, X30, e30, E30, LM30, st30⟩ := own_mk X29 hx hZ hml hnamed (wd197 hw) (wd200 hw) own_lok1 rfl rfl e29 a1 p2 #[rv a1, iv p2, rv a3, rv b19_0] [(.ref b19_0)] rfl (hb hy d14_36) (by decide) (by decide) (W := 1) rfl (by decide)
  obtain ⟨b30, g30⟩ : ∃ z, z = h29.size := ⟨_, rfl⟩
  rw [← g30] at LM30 st30
  have KK30 : Keep h0 h30 [a1] := KK29.ext E30
  have OL30 := OL29.ext E30
  have nz38 := nl pr19.lt sz_b19_0
  have fc39 := ((u19_11.other W29 (Or.inl (Ne.symm nz38))).ext E30)
  have fc40 := ((((pr21.keep K12 nin0).keep K19 nin0).other W29 (Or.inr (slot_ne (Or.inr (wd69 hw)) (Or.inl (wd191 hw)) (by decide) (t := (.array tV)) (t' := .boolean) (by decide) (by decide)))).ext E30)
  have fc41 := ((((pr22.keep K12 nin0).keep K19 nin0).other W29 pr23).ext E30)
  have fc42 := (((fc20.keep K19 nin0).other W29 (Or.inl pr24)).ext E30)
  have fc43 := (((fc21.keep K19 nin0).other W29 pr25).ext E30)
  have nz44 := nl pr21.lt sz_b19_1
  have fc45 := ((u19_13.other W29 (Or.inl (Ne.symm nz44))).ext E30)
  have nz46 := nl pr21.lt sz_b19_2
  have fc47 := ((u19_15.other W29 (Ne.symm nz46)).ext E30)
  have fc48 := (((fc22.keep K19 nin0).other W29 (Or.inl pr24)).ext E30)
  have fc49 := (((fc23.keep K19 nin0).other W29 pr26).ext E30)
  have fc50 := ((u19_14.other W29 (Or.inl (Ne.symm nz44))).ext E30)
  have nz51 := nl pr21.lt sz_b19_3
  have fc52 := ((u19_17.other W29 (Ne.symm nz51)).ext E30)
  have fc53 := ((((pr32.keep K12).keep K19).wr W29).ext E30)
  have fc54 := (Fw29.ext E30)
  have fc55 := ((fc28.wr W29).ext E30)
  have fc56 := ((((pr35.keep K12 nin0).keep K19 nin0).other W29 (Or.inr (slot_ne (Or.inr (wd97 hw)) (Or.inl (wd191 hw)) (by decide) (t := (.object s30)) (t' := .boolean) (by decide) (by decide)))).ext E30)
  have fc57 := ((((pr36.keep K12 nin0).keep K19 nin0).other W29 (Or.inr (slot_ne (Or.inr (wd95 hw)) (Or.inl (wd191 hw)) (by decide) (t := (.object s30)) (t' := .boolean) (by decide) (by decide)))).ext E30)
  have fc58 := ((((pr37.keep K12 nin0).keep K19 nin0).other W29 (Or.inr (slot_ne (Or.inl (wd104 hw)) (Or.inl (wd191 hw)) (by decide) (t := .boolean) (t' := .boolean) (by decide) (by decide)))).ext E30)
  have fc59 := ((u19_12.wr W29).ext E30)
  have fc60 := ((u19_10.wr W29).ext E30)
  obtain ⟨_, T37, L37, X37, hQ37, st37⟩ := own_cV X30 hx hZ ho hml (cw39 hw) (rm27_5 l Z a0 hw b19_0 b30 b19_1 a1 p2 a31 a3 k32 a13 q14 k15 b19_2 oj0 (q17 + (1 : Int64)) kx19_0 a16 q17 k18 b19_3 (q14 - (1 : Int64)) q11 kx19_1 w33 (nar .boolean (p24 ||| o0)) a34 a35 p36 h30 n0 OL30 fc39 LM30 fc40 fc41 fc42 fc43 fc45 fc47 fc48 fc49 fc50 fc52 pr27 pr28 pr29 pr30 pr31 fc53 fc54 pr33 pr34 fc55 pr20 fc56 fc57 fc58 fc59) e30 fc60 41 #[rv a1, iv p2, rv a3, rv b19_0] [(.ref b30)] [] 0 rfl (hb hy d14_41) (by decide)
  obtain ⟨rfl, Nq37, K37, u37_0, u37_1, u37_2, u37_3, u37_4⟩ := hQ37
  have KK37 : Keep h0 T37.heap [a1] := KK30.trans K37 (allS (Or.inl (List.mem_of_getElem? (i := 0) rfl)) all0)
  have N37 := Fr.app N29 Nq37
  refine ⟨none, _, _, _, _, _, X37, rfl, by decide, fun _ => rfl, fun fs hr => ?_, ?_⟩
  · refine st5 _ ?_
    refine xiloadN X5 hx hy d14_3 rfl ?_
    refine st9 _ ?_
    refine st10 _ ?_
    refine st12 _ ?_
    refine xaloadN X12 hx hy d14_15 rfl rfl ?_
    refine st19 _ ?_
    refine XS.astoreN X19.here hx rfl (hb hy d14_19) rfl rfl (l' := #[rv a1, iv p2, rv a3, rv b19_0]) rfl ?_
    refine xaloadN X19 hx hy d14_20 rfl rfl ?_
    refine XS.dup X19.here hx rfl (hb hy d14_21) rfl rfl ?_
    refine st26 _ ?_
    refine xaloadN X26 hx hy d14_25 rfl rfl ?_
    refine st27 _ ?_
    refine XS.ior X27.here hx rfl (hb hy d14_29) rfl ?_
    refine st29 _ ?_
    refine xaloadN X29 hx hy d14_33 rfl rfl ?_
    refine xaloadN X29 hx hy d14_34 rfl rfl ?_
    refine xiloadN X29 hx hy d14_35 rfl ?_
    refine st30 _ ?_
    refine st37 _ ?_
    show SS p e below T37 m 44 #[rv a1, iv p2, rv a3, rv b19_0] [] _
    exact X37.returnOut hx hret (hb hy d14_44) hr
  · exact ⟨rfl, N37, KK37, u37_1, u37_0, u37_2, u37_3, u37_4⟩
theorem sg110_1 (l : Launch) (Z : State) (a0 : Array Value) (hw : HW a0 Z) (p1 p2 : Int32) (q3 q4 : Int64) (p5 : Int32) (q6 q7 : Int64) (p8 p9 p10 : Int32) (a11 a12 a13 a15 : Addr) (k16 : ClassId) (a17 : Addr) (k18 : ClassId) (a19 : Addr) (k20 : ClassId) (p21 : Int32) (a22 a23 w24 : Addr) (k25 : ClassId) (q31 : Int64) (w33 w34 w35 : Addr) (k36 : ClassId) (w37 : Addr) (h0 : Heap) (n0 : Nat) (OL0 : Old Z n0 h0) (pr1 : Fld Z h0 a13 s45 s48 "Z" vi0) (pr2 : Exa Z h0 a13 s45) (pr3 : Fld Z h0 a13 s45 "sets" s8 (.ref a15)) (pr4 : Asl Z h0 a15 k16 tV o12 p5 (.ref a12)) (pr5 : Fld Z h0 a12 s43 "lows" "[J" (.ref a17)) (pr6 : Arv Z h0 a17 k18 .long o1 [(.long q6)] lj0) (pr7 : Fld Z h0 a12 s43 "highs" "[J" (.ref a19)) (pr8 : Arv Z h0 a19 k20 .long o1 [(.long q7)] lj0) (pr9 : ¬ (q7 < q6)) (pr10 : Exa Z h0 a12 s43) (pr11 : Fld Z h0 a13 s45 s15 "Z" (.int p21)) (pr12 : n0 ≤ a13) (pr13 : a15 ≠ a13) (pr14 : n0 ≤ a15) (pr15 : Ovr Z k16 s43) (pr16 : Fld Z h0 a13 s45 s11 s5 (.ref a22)) (pr17 : a13 ≠ a15) (pr18 : Fld Z h0 a13 s45 s16 s5 (.ref a23)) (pr19 : a12 ≠ a13) (pr20 : a17 ≠ a13) (pr21 : a19 ≠ a13) (pr22 : Fld Z h0 a23 s26 s36 "I" vi0) (pr23 : Exa Z h0 a23 s27) (pr24 : n0 ≤ a23) (pr25 : Fld Z h0 a23 s27 s12 s7 (.ref w24)) (pr26 : Fld Z h0 a23 s27 "size" "I" vi0) (pr27 : Arv Z Z.heap w24 k25 (.object s20) o0 [] .null) (pr28 : Sta Z Z.heap s27 s1 s7 (.ref w24)) (pr29 : a13 ≠ a23) (pr30 : a15 ≠ a23) (pr31 : a12 ≠ a23) (pr32 : a17 ≠ a23) (pr33 : a19 ≠ a23) (pr34 : Fld Z h0 a22 s26 s36 "I" vi0) (pr35 : Exa Z h0 a22 s27) (pr36 : n0 ≤ a22) (pr37 : Fld Z h0 a22 s27 s12 s7 (.ref w24)) (pr38 : Fld Z h0 a22 s27 "size" "I" vi0) (pr39 : a13 ≠ a22) (pr40 : a15 ≠ a22) (pr41 : a12 ≠ a22) (pr42 : a17 ≠ a22) (pr43 : a19 ≠ a22) (pr44 : a23 ≠ a22) (pr45 : a23 ≠ a13) (pr46 : a22 ≠ a13) (pr47 : Sta Z Z.heap s45 s2 s5 (.ref w33)) (pr48 : Fld Z Z.heap w33 s29 s13 s7 (.ref w34)) (pr49 : Asl Z Z.heap w34 k36 (.object s20) o12 p5 (.ref w35)) (pr50 : Exa Z Z.heap w33 s29) (pr51 : Exa Z Z.heap w35 s42) (pr52 : Fld Z Z.heap w35 s42 "low" "J" lj0) (pr53 : Fld Z Z.heap w35 s42 "high" "J" (.long q31)) (pr54 : ¬ (q31 < oj0)) (pr55 : ¬ ((281474976710656 : Int64) < q31)) (pr56 : ¬ (q6 < oj0)) (pr57 : Sta Z Z.heap s32 "EMPTY" s6 (.ref w37)) (pr58 : Fld Z Z.heap w37 s32 "value" s3 .null) (pr59 : Exa Z Z.heap w37 s32) (pr60 : ¬ ((281474976710656 : Int64) < q7))
    (st0 : ST Z p l e s m args below meth c T0 locs cells slots h0 n0) (hcl : cells + 26 ≤ 80) (hsl : slots + 68 ≤ 320) : SG p l e s m args below meth c T0 n0 110 (LV p1 p2 q3 q4 p5 q6 q7 p8 p9 p10 a11 a12 a13 uu uu uu) := by
  obtain ⟨hZ, hx, hy, hml, ho, hnm, hret, X0, e0, N0⟩ := st0
  have pre0 : ∀ t, SS p e below T0 m 110 (LV p1 p2 q3 q4 p5 q6 q7 p8 p9 p10 a11 a12 a13 uu uu uu) [] t → SS p e below T0 m 110 (LV p1 p2 q3 q4 p5 q6 q7 p8 p9 p10 a11 a12 a13 uu uu uu) [] t := fun _ k => k
  have pre14 : ∀ t, SS p e below T0 m 113 (LV p1 p2 q3 q4 p5 q6 q7 p8 p9 p10 a11 a12 a13 uu uu uu) [(.int (p1 &&& o2))] t → SS p e below T0 m 110 (LV p1 p2 q3 q4 p5 q6 q7 p8 p9 p10 a11 a12 a13 uu uu uu) [] t := by
    intro t kt
    refine pre0 _ ?_
    refine xiloadN X0 hx hy at_110 rfl ?_
    refine XS.iconst X0.here hx rfl (hb hy at_111) ?_
    refine XS.iand X0.here hx rfl (hb hy at_112) rfl ?_
    exact kt
  by_cases hf14 : (p1 &&& o2) = o0
  · obtain ⟨_, _, _, _, XX26, hk26, hN26, sg26⟩ := sg125_4 l Z a0 hw p1 p2 q3 q4 p5 q6 q7 p8 p9 p10 a11 a12 a13 a15 k16 a17 k18 a19 k20 p21 a22 a23 w24 k25 h0 n0 OL0 pr1 pr2 pr3 pr4 pr5 pr6 pr7 pr8 pr9 pr10 pr11 pr12 pr13 pr14 pr15 pr16 pr17 pr18 pr19 pr20 pr21 pr22 pr23 pr24 pr25 pr26 pr27 pr28 pr29 pr30 pr31 pr32 pr33 pr34 pr35 pr36 pr37 pr38 pr39 pr40 pr41 pr42 pr43 pr44 pr45 pr46 ⟨hZ, hx, hy, hml, ho, hnm, hret, X0, e0, N0⟩ (by show cells + 11 ≤ 80; omega) (by show slots + 37 ≤ 320; omega)
    refine ⟨_, _, _, _, XX26, hk26, hN26, fun fs hr => pre14 _ ?_⟩
    refine XS.ifYes X0.here hx rfl (pc0 := 113) (pc' := 125) rfl (hb hy at_113) rfl ((if0 _ _).trans (teq hf14).1) (by decide) (by decide) ?_
    exact sg26 fs hr
  · have pre32 : ∀ t, SS p e below T0 m 122 (LV p1 p2 q3 q4 p5 q6 q7 p8 p9 p10 a11 a12 a13 uu uu uu) [(.ref a12), (.int p5), (.ref a13)] t → SS p e below T0 m 110 (LV p1 p2 q3 q4 p5 q6 q7 p8 p9 p10 a11 a12 a13 uu uu uu) [] t := by
      intro t kt
      refine pre14 _ ?_
      refine XS.ifNo X0.here hx rfl (hb hy at_113) rfl ((if0 _ _).trans (feq hf14).1) ?_
      refine xaload X0 hx hy at_116 rfl rfl ?_
      refine xiload X0 hx hy at_118 rfl ?_
      refine xaload X0 hx hy at_120 rfl rfl ?_
      exact kt
    by_cases hf32 : q31 < q6
    · obtain ⟨_, T38, L38, X38, hQ38, st38⟩ := own_cV X0 hx hZ ho hml (cw40 hw) (rm14_5 l Z a0 hw a13 p5 a12 w33 w34 w35 k36 q31 a17 q6 k18 a19 q7 k20 p21 a15 k16 w37 a22 a23 o0 h0 n0 OL0 pr47 pr48 pr49 pr50 pr51 pr52 pr53 pr54 pr55 pr5 pr6 pr7 pr8 (own_p13 pr56 pr9) hf32 pr11 pr2 pr12 pr3 pr4 pr13 pr19 pr20 pr21 (own_p7 _ _ hf32) (own_p14 hf32 pr9) pr57 pr10 pr58 pr59 pr16 pr18 pr1) e0 pr2 122 (LV p1 p2 q3 q4 p5 q6 q7 p8 p9 p10 a11 a12 a13 uu uu uu) [(.int p5), (.ref a12)] [] 0 rfl (hb hy at_122) ⟨by decide, by decide, by show cells + 15 ≤ 80; omega, by show slots + 27 ≤ 320; omega⟩
      obtain ⟨rfl, Nq38, K38, u38_0, u38_1, u38_2, u38_3, u38_4⟩ := hQ38
      have OL38 := OL0.keep K38 (allS pr12 all0)
      have N38 := Fr.app N0 Nq38
      have fc40 := (pr2.keep K38)
      have fc41 := (pr4.keep K38 (ninS pr13 nin0))
      have fc42 := (pr5.keep K38 (ninS pr19 nin0))
      have fc43 := (pr6.keep K38 (ninS pr20 nin0))
      have fc44 := (pr7.keep K38 (ninS pr19 nin0))
      have fc45 := (pr8.keep K38 (ninS pr21 nin0))
      have fc46 := (pr10.keep K38)
      have fc47 := (pr22.keep K38 (ninS pr45 nin0))
      have fc48 := (pr23.keep K38)
      have fc49 := (pr25.keep K38 (ninS pr45 nin0))
      have fc50 := (pr26.keep K38 (ninS pr45 nin0))
      have fc51 := (pr34.keep K38 (ninS pr46 nin0))
      have fc52 := (pr35.keep K38)
      have fc53 := (pr37.keep K38 (ninS pr46 nin0))
      have fc54 := (pr38.keep K38 (ninS pr46 nin0))
      obtain ⟨_, _, _, _, XX39, hk39, hN39, sg39⟩ := sg125_4 l Z a0 hw p1 p2 q3 q4 p5 q6 q7 p8 p9 p10 a11 a12 a13 a15 k16 a17 k18 a19 k20 (nar .boolean ((nar .boolean (p21 ||| o0)) ||| o1)) a22 a23 w24 k25 T38.heap n0 OL38 u38_4 fc40 u38_1 fc41 fc42 fc43 fc44 fc45 pr9 fc46 u38_0 pr12 pr13 pr14 pr15 u38_2 pr17 u38_3 pr19 pr20 pr21 fc47 fc48 pr24 fc49 fc50 pr27 pr28 pr29 pr30 pr31 pr32 pr33 fc51 fc52 pr36 fc53 fc54 pr39 pr40 pr41 pr42 pr43 pr44 pr45 pr46 ⟨hZ, hx, hy, hml, ho, hnm, hret, X38, rfl, N38⟩ (by show cells + 15 + 11 ≤ 80; omega) (by show slots + 27 + 37 ≤ 320; omega)
      refine ⟨_, _, _, _, XX39, hk39, hN39, fun fs hr => pre32 _ ?_⟩
      refine st38 _ ?_
      exact sg39 fs hr
    · by_cases hf55 : (q6 - (1 : Int64)) < oj0
      · by_cases hf56 : q31 < (q7 + (1 : Int64))
        · obtain ⟨_, T57, L57, X57, hQ57, st57⟩ := own_cV X0 hx hZ ho hml (cw40 hw) (rm14_1 l Z a0 hw a13 p5 a12 w33 w34 w35 k36 q31 a17 q6 k18 a19 q7 k20 w37 p21 a22 a23 a15 o0 h0 n0 OL0 pr47 pr48 pr49 pr50 pr51 pr52 pr53 pr54 pr55 pr5 pr6 pr7 pr8 (own_p13 pr56 pr9) hf32 hf55 hf56 pr57 pr11 pr58 pr59 pr2 pr12 pr16 pr18 pr3 pr1) e0 pr2 122 (LV p1 p2 q3 q4 p5 q6 q7 p8 p9 p10 a11 a12 a13 uu uu uu) [(.int p5), (.ref a12)] [] 0 rfl (hb hy at_122) ⟨by decide, by decide, by show cells + 7 ≤ 80; omega, by show slots + 13 ≤ 320; omega⟩
          obtain ⟨rfl, Nq57, K57, u57_0, u57_1, u57_2, u57_3, u57_4⟩ := hQ57
          have OL57 := OL0.keep K57 (allS pr12 all0)
          have N57 := Fr.app N0 Nq57
          have fc59 := (pr2.keep K57)
          have fc60 := (pr4.keep K57 (ninS pr13 nin0))
          have fc61 := (pr5.keep K57 (ninS pr19 nin0))
          have fc62 := (pr6.keep K57 (ninS pr20 nin0))
          have fc63 := (pr7.keep K57 (ninS pr19 nin0))
          have fc64 := (pr8.keep K57 (ninS pr21 nin0))
          have fc65 := (pr10.keep K57)
          have fc66 := (pr22.keep K57 (ninS pr45 nin0))
          have fc67 := (pr23.keep K57)
          have fc68 := (pr25.keep K57 (ninS pr45 nin0))
          have fc69 := (pr26.keep K57 (ninS pr45 nin0))
          have fc70 := (pr34.keep K57 (ninS pr46 nin0))
          have fc71 := (pr35.keep K57)
          have fc72 := (pr37.keep K57 (ninS pr46 nin0))
          have fc73 := (pr38.keep K57 (ninS pr46 nin0))
          obtain ⟨_, _, _, _, XX58, hk58, hN58, sg58⟩ := sg125_4 l Z a0 hw p1 p2 q3 q4 p5 q6 q7 p8 p9 p10 a11 a12 a13 a15 k16 a17 k18 a19 k20 (nar .boolean (p21 ||| o1)) a22 a23 w24 k25 T57.heap n0 OL57 u57_4 fc59 u57_3 fc60 fc61 fc62 fc63 fc64 pr9 fc65 u57_0 pr12 pr13 pr14 pr15 u57_1 pr17 u57_2 pr19 pr20 pr21 fc66 fc67 pr24 fc68 fc69 pr27 pr28 pr29 pr30 pr31 pr32 pr33 fc70 fc71 pr36 fc72 fc73 pr39 pr40 pr41 pr42 pr43 pr44 pr45 pr46 ⟨hZ, hx, hy, hml, ho, hnm, hret, X57, rfl, N57⟩ (by show cells + 7 + 11 ≤ 80; omega) (by show slots + 13 + 37 ≤ 320; omega)
          refine ⟨_, _, _, _, XX58, hk58, hN58, fun fs hr => pre32 _ ?_⟩
          refine st57 _ ?_
          exact sg58 fs hr
        · obtain ⟨_, T74, L74, X74, hQ74, st74⟩ := own_cV X0 hx hZ ho hml (cw40 hw) (rm14_6 l Z a0 hw a13 p5 a12 w33 w34 w35 k36 q31 a17 q6 k18 a19 q7 k20 p21 a15 k16 w37 a22 a23 o0 h0 n0 OL0 pr47 pr48 pr49 pr50 pr51 pr52 pr53 pr54 pr55 pr5 pr6 pr7 pr8 (own_p13 pr56 pr9) hf32 hf55 hf56 pr11 pr2 pr12 pr3 pr4 pr13 pr19 pr20 pr21 (own_p6 _ _ pr60) (own_p9 pr60 hf56) pr57 pr10 pr58 pr59 pr16 pr18 pr1) e0 pr2 122 (LV p1 p2 q3 q4 p5 q6 q7 p8 p9 p10 a11 a12 a13 uu uu uu) [(.int p5), (.ref a12)] [] 0 rfl (hb hy at_122) ⟨by decide, by decide, by show cells + 15 ≤ 80; omega, by show slots + 27 ≤ 320; omega⟩
          obtain ⟨rfl, Nq74, K74, u74_0, u74_1, u74_2, u74_3, u74_4⟩ := hQ74
          have OL74 := OL0.keep K74 (allS pr12 all0)
          have N74 := Fr.app N0 Nq74
          have fc76 := (pr2.keep K74)
          have fc77 := (pr4.keep K74 (ninS pr13 nin0))
          have fc78 := (pr5.keep K74 (ninS pr19 nin0))
          have fc79 := (pr6.keep K74 (ninS pr20 nin0))
          have fc80 := (pr7.keep K74 (ninS pr19 nin0))
          have fc81 := (pr8.keep K74 (ninS pr21 nin0))
          have fc82 := (pr10.keep K74)
          have fc83 := (pr22.keep K74 (ninS pr45 nin0))
          have fc84 := (pr23.keep K74)
          have fc85 := (pr25.keep K74 (ninS pr45 nin0))
          have fc86 := (pr26.keep K74 (ninS pr45 nin0))
          have fc87 := (pr34.keep K74 (ninS pr46 nin0))
          have fc88 := (pr35.keep K74)
          have fc89 := (pr37.keep K74 (ninS pr46 nin0))
          have fc90 := (pr38.keep K74 (ninS pr46 nin0))
          obtain ⟨_, _, _, _, XX75, hk75, hN75, sg75⟩ := sg125_4 l Z a0 hw p1 p2 q3 q4 p5 q6 q7 p8 p9 p10 a11 a12 a13 a15 k16 a17 k18 a19 k20 (nar .boolean ((nar .boolean (p21 ||| o0)) ||| o1)) a22 a23 w24 k25 T74.heap n0 OL74 u74_4 fc76 u74_1 fc77 fc78 fc79 fc80 fc81 pr9 fc82 u74_0 pr12 pr13 pr14 pr15 u74_2 pr17 u74_3 pr19 pr20 pr21 fc83 fc84 pr24 fc85 fc86 pr27 pr28 pr29 pr30 pr31 pr32 pr33 fc87 fc88 pr36 fc89 fc90 pr39 pr40 pr41 pr42 pr43 pr44 pr45 pr46 ⟨hZ, hx, hy, hml, ho, hnm, hret, X74, rfl, N74⟩ (by show cells + 15 + 11 ≤ 80; omega) (by show slots + 27 + 37 ≤ 320; omega)
          refine ⟨_, _, _, _, XX75, hk75, hN75, fun fs hr => pre32 _ ?_⟩
          refine st74 _ ?_
          exact sg75 fs hr
      · by_cases hf91 : q31 < (q7 + (1 : Int64))
        · obtain ⟨_, T92, L92, X92, hQ92, st92⟩ := own_cV X0 hx hZ ho hml (cw40 hw) (rm14_7 l Z a0 hw a13 p5 a12 w33 w34 w35 k36 q31 a17 q6 k18 a19 q7 k20 p21 a15 k16 w37 a22 a23 o0 h0 n0 OL0 pr47 pr48 pr49 pr50 pr51 pr52 pr53 pr54 pr55 pr5 pr6 pr7 pr8 (own_p13 pr56 pr9) hf32 hf55 hf91 pr11 pr2 pr12 pr3 pr4 pr13 pr19 pr20 pr21 (own_p5 _ pr56) (own_p12 pr56 pr9) pr57 pr10 pr58 pr59 pr16 pr18 pr1) e0 pr2 122 (LV p1 p2 q3 q4 p5 q6 q7 p8 p9 p10 a11 a12 a13 uu uu uu) [(.int p5), (.ref a12)] [] 0 rfl (hb hy at_122) ⟨by decide, by decide, by show cells + 15 ≤ 80; omega, by show slots + 27 ≤ 320; omega⟩
          obtain ⟨rfl, Nq92, K92, u92_0, u92_1, u92_2, u92_3, u92_4⟩ := hQ92
          have OL92 := OL0.keep K92 (allS pr12 all0)
          have N92 := Fr.app N0 Nq92
          have fc94 := (pr2.keep K92)
          have fc95 := (pr4.keep K92 (ninS pr13 nin0))
          have fc96 := (pr5.keep K92 (ninS pr19 nin0))
          have fc97 := (pr6.keep K92 (ninS pr20 nin0))
          have fc98 := (pr7.keep K92 (ninS pr19 nin0))
          have fc99 := (pr8.keep K92 (ninS pr21 nin0))
          have fc100 := (pr10.keep K92)
          have fc101 := (pr22.keep K92 (ninS pr45 nin0))
          have fc102 := (pr23.keep K92)
          have fc103 := (pr25.keep K92 (ninS pr45 nin0))
          have fc104 := (pr26.keep K92 (ninS pr45 nin0))
          have fc105 := (pr34.keep K92 (ninS pr46 nin0))
          have fc106 := (pr35.keep K92)
          have fc107 := (pr37.keep K92 (ninS pr46 nin0))
          have fc108 := (pr38.keep K92 (ninS pr46 nin0))
          obtain ⟨_, _, _, _, XX93, hk93, hN93, sg93⟩ := sg125_4 l Z a0 hw p1 p2 q3 q4 p5 q6 q7 p8 p9 p10 a11 a12 a13 a15 k16 a17 k18 a19 k20 (nar .boolean ((nar .boolean (p21 ||| o0)) ||| o1)) a22 a23 w24 k25 T92.heap n0 OL92 u92_4 fc94 u92_1 fc95 fc96 fc97 fc98 fc99 pr9 fc100 u92_0 pr12 pr13 pr14 pr15 u92_2 pr17 u92_3 pr19 pr20 pr21 fc101 fc102 pr24 fc103 fc104 pr27 pr28 pr29 pr30 pr31 pr32 pr33 fc105 fc106 pr36 fc107 fc108 pr39 pr40 pr41 pr42 pr43 pr44 pr45 pr46 ⟨hZ, hx, hy, hml, ho, hnm, hret, X92, rfl, N92⟩ (by show cells + 15 + 11 ≤ 80; omega) (by show slots + 27 + 37 ≤ 320; omega)
          refine ⟨_, _, _, _, XX93, hk93, hN93, fun fs hr => pre32 _ ?_⟩
          refine st92 _ ?_
          exact sg93 fs hr
        · obtain ⟨_, T109, L109, X109, hQ109, st109⟩ := own_cV X0 hx hZ ho hml (cw40 hw) (rm14_8 l Z a0 hw a13 p5 a12 w33 w34 w35 k36 q31 a17 q6 k18 a19 q7 k20 p21 a15 k16 w37 a22 a23 o0 h0 n0 OL0 pr47 pr48 pr49 pr50 pr51 pr52 pr53 pr54 pr55 pr5 pr6 pr7 pr8 (own_p13 pr56 pr9) hf32 hf55 hf91 pr11 pr2 pr12 pr3 pr4 pr13 pr19 pr20 pr21 (own_p5 _ pr56) (own_p12 pr56 pr9) (own_p6 _ _ pr60) (own_p9 pr60 hf91) pr57 pr10 pr58 pr59 pr16 pr18 pr1) e0 pr2 122 (LV p1 p2 q3 q4 p5 q6 q7 p8 p9 p10 a11 a12 a13 uu uu uu) [(.int p5), (.ref a12)] [] 0 rfl (hb hy at_122) ⟨by decide, by decide, by show cells + 15 ≤ 80; omega, by show slots + 31 ≤ 320; omega⟩
          obtain ⟨rfl, Nq109, K109, u109_0, u109_1, u109_2, u109_3, u109_4⟩ := hQ109
          have OL109 := OL0.keep K109 (allS pr12 all0)
          have N109 := Fr.app N0 Nq109
          have fc111 := (pr2.keep K109)
          have fc112 := (pr4.keep K109 (ninS pr13 nin0))
          have fc113 := (pr5.keep K109 (ninS pr19 nin0))
          have fc114 := (pr6.keep K109 (ninS pr20 nin0))
          have fc115 := (pr7.keep K109 (ninS pr19 nin0))
          have fc116 := (pr8.keep K109 (ninS pr21 nin0))
          have fc117 := (pr10.keep K109)
          have fc118 := (pr22.keep K109 (ninS pr45 nin0))
          have fc119 := (pr23.keep K109)
          have fc120 := (pr25.keep K109 (ninS pr45 nin0))
          have fc121 := (pr26.keep K109 (ninS pr45 nin0))
          have fc122 := (pr34.keep K109 (ninS pr46 nin0))
          have fc123 := (pr35.keep K109)
          have fc124 := (pr37.keep K109 (ninS pr46 nin0))
          have fc125 := (pr38.keep K109 (ninS pr46 nin0))
          obtain ⟨_, _, _, _, XX110, hk110, hN110, sg110⟩ := sg125_4 l Z a0 hw p1 p2 q3 q4 p5 q6 q7 p8 p9 p10 a11 a12 a13 a15 k16 a17 k18 a19 k20 (nar .boolean ((nar .boolean (p21 ||| o0)) ||| o1)) a22 a23 w24 k25 T109.heap n0 OL109 u109_4 fc111 u109_1 fc112 fc113 fc114 fc115 fc116 pr9 fc117 u109_0 pr12 pr13 pr14 pr15 u109_2 pr17 u109_3 pr19 pr20 pr21 fc118 fc119 pr24 fc120 fc121 pr27 pr28 pr29 pr30 pr31 pr32 pr33 fc122 fc123 pr36 fc124 fc125 pr39 pr40 pr41 pr42 pr43 pr44 pr45 pr46 ⟨hZ, hx, hy, hml, ho, hnm, hret, X109, rfl, N109⟩ (by show cells + 15 + 11 ≤ 80; omega) (by show slots + 31 + 37 ≤ 320; omega)
          refine ⟨_, _, _, _, XX110, hk110, hN110, fun fs hr => pre32 _ ?_⟩
          refine st109 _ ?_
          exact sg110 fs hr
theorem ef_0 (m : MethodId) (x0 : Int32) (x1 : Int32) (x2 : Int64) (x3 : Int64) : entryFrame m #[(.int x0), (.int x1), (.long x2), (.long x3)] maxLocals = mkF m 0 #[.val (.int x0), .val (.int x1), .val (.long x2), .second, .val (.long x3), .second, .unset, .unset, .unset, .unset, .unset, .unset, .unset, .unset, .unset, .unset, .unset, .unset, .unset, .unset, .unset] [] := by first | (simp [entryFrame, mkF, argsToLocals, Value.category, maxLocals]; done) | rfl
theorem pn_15 : plainName "shadowsift/iptables/ConditionExactPinLaw" = true := by first | (simp [plainName, overriddenIn]; done) | decide +kernel
set_option maxRecDepth 65536 in
set_option maxHeartbeats 400000000 in
theorem rm0 (l : Launch) (Z : State) (a0 : Array Value) (hw : HW a0 Z) (ws : List Jvm.Cond) (p1 : Int32) (p2 : Int32) (p3 : Int64) (p4 : Int64) (y1 : Int32) (y2 : Int32) (y3 : Int64) (y4 : Int64) (y5 : Int64) (y6 : Int32) (y7 : Int32) (y8 : Int32) (y9 : Int64) (y10 : Int64) (y11 : Int32) (y12 : Int32) (y13 : Int32) (y14 : Int32) (n_COMPACT_STRINGS : Int32) (w_FIXED_FIELDS : Addr) (w_el : Addr) (v1 : Addr) (k_el : ClassId) (w_DEFAULTCAPACITY_EMPTY_ELEMENTDATA : Addr) (y15 : Int32) (k_w_DEFAULTCAPACITY_EMPTY_ELEMENTDATA : ClassId) (H : Int64) (w_EMPTY : Addr) (h0 : Heap) (n0 : Nat) (OL0 : Old Z n0 h0) (pr1 : (p2 &&& (2147483647 : Int32)) = y1) (pr2 : (y1 % o12) = y2) (pr3 : (p3 &&& (65535 : Int64)) = y3) (pr4 : (p4 &&& (65535 : Int64)) = y4) (pr5 : (y3 + y4) = y5) (pr6 : ((p1.toUInt32 >>> ((8 : Int32) &&& 31).toUInt32).toInt32) = y6) (pr7 : (y6 &&& o1) = y7) (pr8 : ((3 : Int32) + y7) = y8) (pr9 : ((p3.toUInt64 >>> ((16 : Int32) &&& 0x3f).toInt64.toUInt64).toInt64) = y9) (pr10 : (y9 &&& (255 : Int64)) = y10) (pr11 : (y10.toInt32) = y11) (pr12 : (y11.toUInt32.toUInt16.toUInt32.toInt32) = y12) (pr13 : (p1 &&& (32 : Int32)) = y13) (pr14 : (own_ng y13) = y14) (pr15 : Sta Z Z.heap s22 s0 "Z" (.int n_COMPACT_STRINGS)) (pr16 : ¬ (n_COMPACT_STRINGS = o0)) (pr17 : ¬ ((255 : Int32) < y12)) (pr18 : ¬ (y3 < oj0)) (pr19 : ¬ (y5 < y3)) (pr20 : ¬ ((281474976710656 : Int64) < y5)) (pr21 : Sta Z Z.heap s45 s2 s5 (.ref w_FIXED_FIELDS)) (pr22 : Fld Z Z.heap w_FIXED_FIELDS s29 s13 s7 (.ref w_el)) (pr23 : Asl Z Z.heap w_el k_el (.object s20) o12 y2 (.ref v1)) (pr24 : Exa Z Z.heap w_FIXED_FIELDS s29) (pr25 : Sta Z Z.heap s27 s1 s7 (.ref w_DEFAULTCAPACITY_EMPTY_ELEMENTDATA)) (pr26 : ¬ (y2 < o0)) (pr27 : y2 < o12) (pr28 : (p1 &&& o1) = y15) (pr29 : Arv Z Z.heap w_DEFAULTCAPACITY_EMPTY_ELEMENTDATA k_w_DEFAULTCAPACITY_EMPTY_ELEMENTDATA (.object s20) o0 [] .null) (pr30 : Exa Z Z.heap v1 s42) (pr31 : Fld Z Z.heap v1 s42 "low" "J" lj0) (pr32 : Fld Z Z.heap v1 s42 "high" "J" (.long H)) (pr33 : ¬ (H < oj0)) (pr34 : ¬ ((281474976710656 : Int64) < H)) (pr35 : Sta Z Z.heap s32 "EMPTY" s6 (.ref w_EMPTY)) (pr36 : Fld Z Z.heap w_EMPTY s32 "value" s3 .null) (pr37 : Exa Z Z.heap w_EMPTY s32) :
    MetFree l x (head1 (Jvm.Cond.code x code maxLocals ret :: ws) room_1) (fun a U => a = #[(.int p1), (.int p2), (.long p3), (.long p4)] ∧ Z.Warmed39 U.vm ∧ U.heap = h0) (fun _ _ _ _ _ => True) (fun _ U o U' => ∃ v L, o = .returned v ∧ Q0 n0 v L ∧ ReturnedEndW U o U' L 80 320) := by
  refine MetFree.of_bodySF (plainFor_of_name pn_15) hisR ?_
  intro p e s m args below meth c s₁ Bd hml0 hP hK
  obtain ⟨rfl, hZ, hh⟩ := hP
  have hx := Bd.exec
  have hy := Bd.bytes
  have hml : c.maxLocals = 21 := hml0
  have ho : s.vm.findClass s47 = some m.cls := findClass_of_methodNamed Bd.named
  have hnm := (name_of_methodNamed Bd.named Bd.method).1
  have X0 : Stand p l e room_1 s m #[(.int p1), (.int p2), (.long p3), (.long p4)] below meth c s₁ [] 0 0 := Stand.of_body Bd
  have e0 : s₁.heap = h0 := by rw [← hh, Bd.state]; rfl
  have N0 := Fr.nil n0
  have pre0 : ∀ t, SS p e below s₁ m 0 #[iv p1, iv p2, jv p3, sc, jv p4, sc, uu, uu, uu, uu, uu, uu, uu, uu, uu, uu, uu, uu, uu, uu, uu] [] t → Steps p.tables e below (s₁.setTop (entryFrame m #[(.int p1), (.int p2), (.long p3), (.long p4)] maxLocals)) t := fun t k => castTop (ef_0 m p1 p2 p3 p4) k
  have dia1 : ∀ t, SS p e below s₁ m 61 #[iv p1, iv p2, jv p3, sc, jv p4, sc, iv y2, jv y3, sc, jv y5, sc, iv y8, iv y12, uu, uu, uu, uu, uu, uu, uu, uu] [(.int (own_ng y13))] t → SS p e below s₁ m 53 #[iv p1, iv p2, jv p3, sc, jv p4, sc, iv y2, jv y3, sc, jv y5, sc, iv y8, iv y12, uu, uu, uu, uu, uu, uu, uu, uu] [(.int y13)] t := by
    intro t kt
    by_cases hd : y13 = 0
    · rw [show (own_ng y13) = o0 from if_pos hd] at kt
      refine XS.ifYes X0.here hx rfl (pc0 := 53) (pc' := 60) rfl (hb hy at_53) rfl ((if0 _ _).trans (teq hd).1) (by decide) (by decide) ?_
      refine XS.iconst X0.here hx rfl (hb hy at_60) ?_
      exact kt
    · rw [show (own_ng y13) = o1 from if_neg hd] at kt
      refine XS.ifNo X0.here hx rfl (hb hy at_53) rfl ((if0 _ _).trans (feq hd).1) ?_
      refine XS.iconst X0.here hx rfl (hb hy at_56) ?_
      refine XS.goto X0.here hx rfl (pc0 := 57) (pc' := 61) rfl (hb hy at_57) (by decide) (by decide) ?_
      exact kt
  obtain ⟨_, T2, L2, X2, hQ2, st2⟩ := own_cS X0 hx hZ ho hml (cw3 hw) (rm1_0 l Z a0 hw y12 n_COMPACT_STRINGS h0 n0 OL0 pr15 pr16 pr17) e0 65 #[iv p1, iv p2, jv p3, sc, jv p4, sc, iv y2, jv y3, sc, jv y5, sc, iv y8, iv y12, iv y14, uu, uu, uu, uu, uu, uu, uu] [(.int y12)] [] 0 rfl (hb hy at_65) (by decide)
  obtain ⟨b2_0, b2_1, kx2_0, rfl, Nq2, K2, u2_0, u2_1, u2_2, u2_3, u2_4, u2_5, u2_6⟩ := hQ2
  have OL2 := OL0.keep K2 all0
  have N2 := Fr.app N0 Nq2
  obtain ⟨_, T3, L3, X3, hQ3, st3⟩ := own_cS X2 hx hZ ho hml (cw5 hw) (rm6_0 l Z a0 hw y3 y5 T2.heap n0 OL2 pr18 pr19 pr20) rfl 74 #[iv p1, iv p2, jv p3, sc, jv p4, sc, iv y2, jv y3, sc, jv y5, sc, iv y8, iv y12, iv y14, rv b2_0, uu, uu, uu, uu, uu, uu] [(.long y3), (.long y5)] [] 0 rfl (hb hy at_74) (by decide)
  obtain ⟨b3_0, b3_1, b3_2, kx3_0, kx3_1, rfl, Nq3, K3, u3_0, u3_1, u3_2, u3_3, u3_4, u3_5, u3_6, u3_7, u3_8, u3_9, u3_10, u3_11, u3_12⟩ := hQ3
  have OL3 := OL2.keep K3 all0
  have N3 := Fr.app N2 Nq3
  obtain ⟨T4, h4, X4, e4, E4, A4, D4, -, st4⟩ := newO X3 hx hZ ho (wd45 hw) (wd46 hw) (wd47 hw) rfl (g := (mkF m 79 #[iv p1, iv p2, jv p3, sc, jv p4, sc, iv y2, jv y3, sc, jv y5, sc, iv y8, iv y12, iv y14, rv b2_0, rv b3_0, uu, uu, uu, uu, uu] [])) rfl (hb hy at_79) (by decide) (by decide)
  obtain ⟨b4, g4⟩ : ∃ z, z = T3.heap.size := ⟨_, rfl⟩
  rw [← g4] at A4 D4 st4
  have g_b4 : n0 ≤ b4 := (Nat.le_trans (Nat.le_trans (Nat.le_of_eq OL3.1.symm) OL3.2.1) (Nat.le_of_eq g4.symm))
  have OL4 := OL3.ext E4
  have F_sets_b4 : Fld Z h4 b4 s45 "sets" s8 .null := D4 (Or.inr (wd69 hw)) (ty := (.array tV)) (by decide)
  have F_interfaces_b4 : Fld Z h4 b4 s45 s16 s5 .null := D4 (Or.inr (wd95 hw)) (ty := (.object s30)) (by decide)
  have F_eitherPort_b4 : Fld Z h4 b4 s45 s11 s5 .null := D4 (Or.inr (wd97 hw)) (ty := (.object s30)) (by decide)
  have F_unmodelled_b4 : Fld Z h4 b4 s45 s48 "Z" vi0 := D4 (Or.inl (wd104 hw)) (ty := .boolean) (by decide)
  have F_impossible_b4 : Fld Z h4 b4 s45 s15 "Z" vi0 := D4 (Or.inl (wd191 hw)) (ty := .boolean) (by decide)
  obtain ⟨_, T5, L5, X5, hQ5, st5⟩ := own_cN X4 hx hZ ho hml (cw10 hw) (rm8_0 l Z a0 hw b4 w_FIXED_FIELDS w_el y2 v1 k_el w_DEFAULTCAPACITY_EMPTY_ELEMENTDATA h4 n0 OL4 pr21 pr22 pr23 pr24 A4 F_sets_b4 g_b4 pr25 F_interfaces_b4 F_eitherPort_b4 F_impossible_b4 F_unmodelled_b4) e4 b4 83 #[iv p1, iv p2, jv p3, sc, jv p4, sc, iv y2, jv y3, sc, jv y5, sc, iv y8, iv y12, iv y14, rv b2_0, rv b3_0, uu, uu, uu, uu, uu] [] [(.ref b4)] 1 rfl (hb hy at_83) (by decide)
  obtain ⟨b5_0, b5_1, b5_2, kx5_0, rfl, Nq5, K5, u5_0, u5_1, u5_2, u5_3, u5_4, u5_5, u5_6, u5_7, u5_8, u5_9, u5_10, u5_11, u5_12, u5_13, u5_14, u5_15, u5_16, u5_17, u5_18, u5_19, u5_20, u5_21⟩ := hQ5
  have OL5 := OL4.keep K5 (allS g_b4 all0)
  have g_b5_0 : n0 ≤ b5_0 := Nat.le_trans (Nat.le_trans (Nat.le_of_eq OL4.1.symm) OL4.2.1) u5_0
  have g_b5_1 : n0 ≤ b5_1 := Nat.le_trans (Nat.le_trans (Nat.le_of_eq OL4.1.symm) OL4.2.1) u5_1
  have g_b5_2 : n0 ≤ b5_2 := Nat.le_trans (Nat.le_trans (Nat.le_of_eq OL4.1.symm) OL4.2.1) u5_2
  have N5 := Fr.app N3 Nq5
  have fc7 := (A4.keep K5)
  obtain ⟨_, T6, L6, X6, hQ6, st6⟩ := own_cV X5 hx hZ ho hml (cw11 hw) (rm13_0 l Z a0 hw b4 T5.heap n0 OL5 u5_10) rfl fc7 90 #[iv p1, iv p2, jv p3, sc, jv p4, sc, iv y2, jv y3, sc, jv y5, sc, iv y8, iv y12, iv y14, rv b2_0, rv b3_0, rv b4, uu, uu, uu, uu] [] [] 0 rfl (hb hy at_90) (by decide)
  obtain ⟨rfl, Nq6, ec6⟩ := hQ6
  have N6 := Fr.app N5 Nq6
  have V8 := Asl.of_arv u5_11 (j := y2) ⟨pr26, pr27⟩ (v := .null) (pad_rep [] .null 12 _)
  have pre9 : ∀ t, SS p e below T6 m 98 #[iv p1, iv p2, jv p3, sc, jv p4, sc, iv y2, jv y3, sc, jv y5, sc, iv y8, iv y12, iv y14, rv b2_0, rv b3_0, rv b4, iv o1, uu, uu, uu] [(.int y15)] t → Steps p.tables e below (s₁.setTop (entryFrame m #[(.int p1), (.int p2), (.long p3), (.long p4)] maxLocals)) t := by
    intro t kt
    refine pre0 _ ?_
    refine xiloadN X0 hx hy at_0 rfl ?_
    refine X0.ldcInt hx ho (mvT hZ (wd0 hw)) (g := (mkF m 1 #[iv p1, iv p2, jv p3, sc, jv p4, sc, uu, uu, uu, uu, uu, uu, uu, uu, uu, uu, uu, uu, uu, uu, uu] [(.int p2)])) rfl (hb hy at_1) _ ?_
    refine XS.iand X0.here hx rfl (hb hy at_3) rfl ?_
    show SS p e below s₁ m 4 #[iv p1, iv p2, jv p3, sc, jv p4, sc, uu, uu, uu, uu, uu, uu, uu, uu, uu, uu, uu, uu, uu, uu, uu] [(.int (p2 &&& (2147483647 : Int32)))] _
    rw [pr1]
    refine XS.bipush X0.here hx rfl (hb hy at_4) ?_
    refine iremM X0 hx rfl (hb hy at_6) rfl (by decide) ?_
    show SS p e below s₁ m 7 #[iv p1, iv p2, jv p3, sc, jv p4, sc, uu, uu, uu, uu, uu, uu, uu, uu, uu, uu, uu, uu, uu, uu, uu] [(.int (y1 % o12))] _
    rw [pr2]
    refine XS.istore X0.here hx rfl (hb hy at_7) rfl (l' := #[iv p1, iv p2, jv p3, sc, jv p4, sc, iv y2, uu, uu, uu, uu, uu, uu, uu, uu, uu, uu, uu, uu, uu, uu]) rfl ?_
    refine xlloadN X0 hx hy at_9 rfl ?_
    refine X0.ldc2Long hx ho (mvT hZ (wd1 hw)) (g := (mkF m 10 #[iv p1, iv p2, jv p3, sc, jv p4, sc, iv y2, uu, uu, uu, uu, uu, uu, uu, uu, uu, uu, uu, uu, uu, uu] [(.long p3)])) rfl (hb hy at_10) _ ?_
    refine XS.land X0.here hx rfl (hb hy at_13) rfl ?_
    show SS p e below s₁ m 14 #[iv p1, iv p2, jv p3, sc, jv p4, sc, iv y2, uu, uu, uu, uu, uu, uu, uu, uu, uu, uu, uu, uu, uu, uu] [(.long (p3 &&& (65535 : Int64)))] _
    rw [pr3]
    refine XS.lstore X0.here hx rfl (hb hy at_14) rfl (l' := #[iv p1, iv p2, jv p3, sc, jv p4, sc, iv y2, jv y3, sc, uu, uu, uu, uu, uu, uu, uu, uu, uu, uu, uu, uu]) rfl ?_
    refine xlload X0 hx hy at_16 rfl ?_
    refine xlload X0 hx hy at_18 rfl ?_
    refine X0.ldc2Long hx ho (mvT hZ (wd1 hw)) (g := (mkF m 20 #[iv p1, iv p2, jv p3, sc, jv p4, sc, iv y2, jv y3, sc, uu, uu, uu, uu, uu, uu, uu, uu, uu, uu, uu, uu] [(.long p4), (.long y3)])) rfl (hb hy at_20) _ ?_
    refine XS.land X0.here hx rfl (hb hy at_23) rfl ?_
    show SS p e below s₁ m 24 #[iv p1, iv p2, jv p3, sc, jv p4, sc, iv y2, jv y3, sc, uu, uu, uu, uu, uu, uu, uu, uu, uu, uu, uu, uu] [(.long (p4 &&& (65535 : Int64))), (.long y3)] _
    rw [pr4]
    refine XS.ladd X0.here hx rfl (hb hy at_24) rfl ?_
    show SS p e below s₁ m 25 #[iv p1, iv p2, jv p3, sc, jv p4, sc, iv y2, jv y3, sc, uu, uu, uu, uu, uu, uu, uu, uu, uu, uu, uu, uu] [(.long (y3 + y4))] _
    rw [pr5]
    refine XS.lstore X0.here hx rfl (hb hy at_25) rfl (l' := #[iv p1, iv p2, jv p3, sc, jv p4, sc, iv y2, jv y3, sc, jv y5, sc, uu, uu, uu, uu, uu, uu, uu, uu, uu, uu]) rfl ?_
    refine XS.iconst X0.here hx rfl (hb hy at_27) ?_
    refine xiloadN X0 hx hy at_28 rfl ?_
    refine XS.bipush X0.here hx rfl (hb hy at_29) ?_
    refine XS.iushr X0.here hx rfl (hb hy at_31) rfl ?_
    show SS p e below s₁ m 32 #[iv p1, iv p2, jv p3, sc, jv p4, sc, iv y2, jv y3, sc, jv y5, sc, uu, uu, uu, uu, uu, uu, uu, uu, uu, uu] [(.int ((p1.toUInt32 >>> ((8 : Int32) &&& 31).toUInt32).toInt32)), (.int (3 : Int32))] _
    rw [pr6]
    refine XS.iconst X0.here hx rfl (hb hy at_32) ?_
    refine XS.iand X0.here hx rfl (hb hy at_33) rfl ?_
    show SS p e below s₁ m 34 #[iv p1, iv p2, jv p3, sc, jv p4, sc, iv y2, jv y3, sc, jv y5, sc, uu, uu, uu, uu, uu, uu, uu, uu, uu, uu] [(.int (y6 &&& o1)), (.int (3 : Int32))] _
    rw [pr7]
    refine XS.iadd X0.here hx rfl (hb hy at_34) rfl ?_
    show SS p e below s₁ m 35 #[iv p1, iv p2, jv p3, sc, jv p4, sc, iv y2, jv y3, sc, jv y5, sc, uu, uu, uu, uu, uu, uu, uu, uu, uu, uu] [(.int ((3 : Int32) + y7))] _
    rw [pr8]
    refine XS.istore X0.here hx rfl (hb hy at_35) rfl (l' := #[iv p1, iv p2, jv p3, sc, jv p4, sc, iv y2, jv y3, sc, jv y5, sc, iv y8, uu, uu, uu, uu, uu, uu, uu, uu, uu]) rfl ?_
    refine xlloadN X0 hx hy at_37 rfl ?_
    refine XS.bipush X0.here hx rfl (hb hy at_38) ?_
    refine XS.lushr X0.here hx rfl (hb hy at_40) rfl ?_
    show SS p e below s₁ m 41 #[iv p1, iv p2, jv p3, sc, jv p4, sc, iv y2, jv y3, sc, jv y5, sc, iv y8, uu, uu, uu, uu, uu, uu, uu, uu, uu] [(.long ((p3.toUInt64 >>> ((16 : Int32) &&& 0x3f).toInt64.toUInt64).toInt64))] _
    rw [pr9]
    refine X0.ldc2Long hx ho (mvT hZ (wd2 hw)) (g := (mkF m 41 #[iv p1, iv p2, jv p3, sc, jv p4, sc, iv y2, jv y3, sc, jv y5, sc, iv y8, uu, uu, uu, uu, uu, uu, uu, uu, uu] [(.long y9)])) rfl (hb hy at_41) _ ?_
    refine XS.land X0.here hx rfl (hb hy at_44) rfl ?_
    show SS p e below s₁ m 45 #[iv p1, iv p2, jv p3, sc, jv p4, sc, iv y2, jv y3, sc, jv y5, sc, iv y8, uu, uu, uu, uu, uu, uu, uu, uu, uu] [(.long (y9 &&& (255 : Int64)))] _
    rw [pr10]
    refine XS.l2i X0.here hx rfl (hb hy at_45) rfl ?_
    show SS p e below s₁ m 46 #[iv p1, iv p2, jv p3, sc, jv p4, sc, iv y2, jv y3, sc, jv y5, sc, iv y8, uu, uu, uu, uu, uu, uu, uu, uu, uu] [(.int (y10.toInt32))] _
    rw [pr11]
    refine XS.i2c X0.here hx rfl (hb hy at_46) rfl ?_
    show SS p e below s₁ m 47 #[iv p1, iv p2, jv p3, sc, jv p4, sc, iv y2, jv y3, sc, jv y5, sc, iv y8, uu, uu, uu, uu, uu, uu, uu, uu, uu] [(.int (y11.toUInt32.toUInt16.toUInt32.toInt32))] _
    rw [pr12]
    refine XS.istore X0.here hx rfl (hb hy at_47) rfl (l' := #[iv p1, iv p2, jv p3, sc, jv p4, sc, iv y2, jv y3, sc, jv y5, sc, iv y8, iv y12, uu, uu, uu, uu, uu, uu, uu, uu]) rfl ?_
    refine xiloadN X0 hx hy at_49 rfl ?_
    refine XS.bipush X0.here hx rfl (hb hy at_50) ?_
    refine XS.iand X0.here hx rfl (hb hy at_52) rfl ?_
    show SS p e below s₁ m 53 #[iv p1, iv p2, jv p3, sc, jv p4, sc, iv y2, jv y3, sc, jv y5, sc, iv y8, iv y12, uu, uu, uu, uu, uu, uu, uu, uu] [(.int (p1 &&& (32 : Int32)))] _
    rw [pr13]
    show SS p e below s₁ m 53 #[iv p1, iv p2, jv p3, sc, jv p4, sc, iv y2, jv y3, sc, jv y5, sc, iv y8, iv y12, uu, uu, uu, uu, uu, uu, uu, uu] [(.int y13)] _
    refine dia1 _ ?_
    show SS p e below s₁ m 61 #[iv p1, iv p2, jv p3, sc, jv p4, sc, iv y2, jv y3, sc, jv y5, sc, iv y8, iv y12, uu, uu, uu, uu, uu, uu, uu, uu] [(.int (own_ng y13))] _
    rw [pr14]
    refine XS.istore X0.here hx rfl (hb hy at_61) rfl (l' := #[iv p1, iv p2, jv p3, sc, jv p4, sc, iv y2, jv y3, sc, jv y5, sc, iv y8, iv y12, iv y14, uu, uu, uu, uu, uu, uu, uu]) rfl ?_
    refine xiload X0 hx hy at_63 rfl ?_
    refine st2 _ ?_
    refine XS.astore X2.here hx rfl (hb hy at_68) rfl rfl (l' := #[iv p1, iv p2, jv p3, sc, jv p4, sc, iv y2, jv y3, sc, jv y5, sc, iv y8, iv y12, iv y14, rv b2_0, uu, uu, uu, uu, uu, uu]) rfl ?_
    refine xlload X2 hx hy at_70 rfl ?_
    refine xlload X2 hx hy at_72 rfl ?_
    refine st3 _ ?_
    refine XS.astore X3.here hx rfl (hb hy at_77) rfl rfl (l' := #[iv p1, iv p2, jv p3, sc, jv p4, sc, iv y2, jv y3, sc, jv y5, sc, iv y8, iv y12, iv y14, rv b2_0, rv b3_0, uu, uu, uu, uu, uu]) rfl ?_
    refine st4 _ ?_
    refine XS.dup X4.here hx rfl (hb hy at_82) rfl rfl ?_
    refine st5 _ ?_
    refine XS.astore X5.here hx rfl (hb hy at_86) rfl rfl (l' := #[iv p1, iv p2, jv p3, sc, jv p4, sc, iv y2, jv y3, sc, jv y5, sc, iv y8, iv y12, iv y14, rv b2_0, rv b3_0, rv b4, uu, uu, uu, uu]) rfl ?_
    refine xaload X5 hx hy at_88 rfl rfl ?_
    refine st6 _ ?_
    refine XS.istore X6.here hx rfl (hb hy at_93) rfl (l' := #[iv p1, iv p2, jv p3, sc, jv p4, sc, iv y2, jv y3, sc, jv y5, sc, iv y8, iv y12, iv y14, rv b2_0, rv b3_0, rv b4, iv o1, uu, uu, uu]) rfl ?_
    refine xiloadN X6 hx hy at_95 rfl ?_
    show SS p e below T6 m 96 #[iv p1, iv p2, jv p3, sc, jv p4, sc, iv y2, jv y3, sc, jv y5, sc, iv y8, iv y12, iv y14, rv b2_0, rv b3_0, rv b4, iv o1, uu, uu, uu] [(.int p1)] _
    refine XS.iconst X6.here hx rfl (hb hy at_96) ?_
    refine XS.iand X6.here hx rfl (hb hy at_97) rfl ?_
    show SS p e below T6 m 98 #[iv p1, iv p2, jv p3, sc, jv p4, sc, iv y2, jv y3, sc, jv y5, sc, iv y8, iv y12, iv y14, rv b2_0, rv b3_0, rv b4, iv o1, uu, uu, uu] [(.int (p1 &&& o1))] _
    rw [pr28]
    exact kt
  by_cases hf9 : y15 = o0
  · have fc11 := ((u3_6.ext E4).keep K5)
    have nz12 := nl F_unmodelled_b4.lt u5_0
    have nz13 := nl F_unmodelled_b4.lt u5_1
    have nz14 := nl F_unmodelled_b4.lt u5_2
    have nz15 := (nl u3_8.lt (Nat.le_of_eq g4.symm))
    have fc16 := ((u3_7.ext E4).keep K5 (ninS nz15 nin0))
    have nz17 := (nl u3_9.lt (Nat.le_of_eq g4.symm))
    have fc18 := ((u3_9.ext E4).keep K5 (ninS nz17 nin0))
    have fc19 := ((u3_8.ext E4).keep K5 (ninS nz15 nin0))
    have nz20 := (nl u3_12.lt (Nat.le_of_eq g4.symm))
    have fc21 := ((u3_11.ext E4).keep K5 (ninS nz20 nin0))
    have lz22 := (lq u3_8.lt E4.1)
    have nz23 := nl lz22 u5_0
    have lz24 := (lq u3_9.lt E4.1)
    have nz25 := nl lz24 u5_0
    have lz26 := (lq u3_12.lt E4.1)
    have nz27 := nl lz26 u5_0
    have nz28 := nl lz22 u5_1
    have nz29 := nl lz24 u5_1
    have nz30 := nl lz26 u5_1
    have nz31 := nl lz22 u5_2
    have nz32 := nl lz24 u5_2
    have nz33 := nl lz26 u5_2
    obtain ⟨_, _, _, _, XX10, hk10, hN10, sg10⟩ := sg110_0 l Z a0 hw p1 p2 p3 p4 y2 y3 y5 y8 y12 y14 b2_0 b3_0 b4 b5_0 kx5_0 b5_2 o0 b5_1 w_DEFAULTCAPACITY_EMPTY_ELEMENTDATA k_w_DEFAULTCAPACITY_EMPTY_ELEMENTDATA H w_FIXED_FIELDS w_el v1 k_el b3_1 kx3_0 b3_2 kx3_1 w_EMPTY T5.heap n0 OL5 u5_10 fc7 u5_6 V8 g_b5_0 u5_12 fc11 nz12 g_b4 u5_8 u5_9 u5_7 (Ne.symm nz12) u5_15 u5_14 g_b5_1 u5_16 u5_17 pr29 pr25 nz13 u5_3 u5_19 u5_18 g_b5_2 u5_20 u5_21 nz14 u5_4 u5_5 (Ne.symm nz13) (Ne.symm nz14) pr21 pr22 pr23 pr24 pr30 pr31 pr32 pr33 pr34 fc16 fc18 fc19 fc21 pr18 pr19 nz23 nz15 nz25 nz17 nz27 nz20 pr35 pr36 pr37 (Ne.symm u5_3) nz28 nz29 nz30 (Ne.symm u5_4) nz31 nz32 nz33 pr20 ⟨hZ, hx, hy, hml, ho, hnm, Bd.returns, X6, ec6, N6⟩ (by decide) (by decide)
    obtain ⟨fs, hr, hrun, hended, hW, hsame⟩ := XX10.leave (v := some (.int 1)) (fun h => by rw [Bd.returns] at h; cases h)
    refine ⟨_, _, pre9 _ ?_, hrun, hended, _, _, rfl, ⟨rfl, hN10⟩, ⟨_, rfl⟩, hW.wide, hW.no_new_pair _, hsame.mono hk10.1 hk10.2⟩
    refine XS.ifYes X6.here hx rfl (pc0 := 98) (pc' := 110) rfl (hb hy at_98) rfl ((if0 _ _).trans (teq hf9).1) (by decide) (by decide) ?_
    exact sg10 fs hr
  · have fc35 := ((u3_6.ext E4).keep K5)
    obtain ⟨_, T34, L34, X34, hQ34, st34⟩ := own_cV X6 hx hZ ho hml (cw12 hw) (rm29_0 l Z a0 hw b4 y2 b3_0 b5_0 kx5_0 T5.heap n0 OL5 u5_6 V8 g_b5_0 u5_12 fc35) ec6 fc7 107 #[iv p1, iv p2, jv p3, sc, jv p4, sc, iv y2, jv y3, sc, jv y5, sc, iv y8, iv y12, iv y14, rv b2_0, rv b3_0, rv b4, iv o1, uu, uu, uu] [(.int y2), (.ref b3_0)] [] 0 rfl (hb hy at_107) (by decide)
    obtain ⟨rfl, Nq34, K34, u34_0⟩ := hQ34
    have OL34 := OL5.keep K34 (allS g_b5_0 all0)
    have N34 := Fr.app N6 Nq34
    have nz37 := nl F_unmodelled_b4.lt u5_0
    have fc38 := (u5_10.keep K34 (ninS nz37 nin0))
    have fc39 := (fc7.keep K34)
    have fc40 := (u5_6.keep K34 (ninS nz37 nin0))
    have nz41 := (nl u3_8.lt (Nat.le_of_eq g4.symm))
    have lz42 := (lq u3_8.lt E4.1)
    have nz43 := nl lz42 u5_0
    have fc44 := (((u3_7.ext E4).keep K5 (ninS nz41 nin0)).keep K34 (ninS nz43 nin0))
    have nz45 := (nl u3_9.lt (Nat.le_of_eq g4.symm))
    have lz46 := (lq u3_9.lt E4.1)
    have nz47 := nl lz46 u5_0
    have fc48 := (((u3_9.ext E4).keep K5 (ninS nz45 nin0)).keep K34 (ninS nz47 nin0))
    have fc49 := (((u3_8.ext E4).keep K5 (ninS nz41 nin0)).keep K34 (ninS nz43 nin0))
    have nz50 := (nl u3_12.lt (Nat.le_of_eq g4.symm))
    have lz51 := (lq u3_12.lt E4.1)
    have nz52 := nl lz51 u5_0
    have fc53 := (((u3_11.ext E4).keep K5 (ninS nz50 nin0)).keep K34 (ninS nz52 nin0))
    have fc54 := (fc35.keep K34)
    have fc55 := (u5_9.keep K34 (ninS nz37 nin0))
    have fc56 := (u5_8.keep K34 (ninS nz37 nin0))
    have fc57 := (u5_7.keep K34 (ninS nz37 nin0))
    have fc58 := (u5_15.keep K34 (ninS (Ne.symm u5_3) nin0))
    have fc59 := (u5_14.keep K34)
    have fc60 := (u5_16.keep K34 (ninS (Ne.symm u5_3) nin0))
    have fc61 := (u5_17.keep K34 (ninS (Ne.symm u5_3) nin0))
    have nz62 := nl F_unmodelled_b4.lt u5_1
    have nz63 := nl lz42 u5_1
    have nz64 := nl lz46 u5_1
    have nz65 := nl lz51 u5_1
    have fc66 := (u5_19.keep K34 (ninS (Ne.symm u5_4) nin0))
    have fc67 := (u5_18.keep K34)
    have fc68 := (u5_20.keep K34 (ninS (Ne.symm u5_4) nin0))
    have fc69 := (u5_21.keep K34 (ninS (Ne.symm u5_4) nin0))
    have nz70 := nl F_unmodelled_b4.lt u5_2
    have nz71 := nl lz42 u5_2
    have nz72 := nl lz46 u5_2
    have nz73 := nl lz51 u5_2
    obtain ⟨_, _, _, _, XX36, hk36, hN36, sg36⟩ := sg110_1 l Z a0 hw p1 p2 p3 p4 y2 y3 y5 y8 y12 y14 b2_0 b3_0 b4 b5_0 kx5_0 b3_1 kx3_0 b3_2 kx3_1 o0 b5_2 b5_1 w_DEFAULTCAPACITY_EMPTY_ELEMENTDATA k_w_DEFAULTCAPACITY_EMPTY_ELEMENTDATA H w_FIXED_FIELDS w_el v1 k_el w_EMPTY T34.heap n0 OL34 fc38 fc39 fc40 u34_0 fc44 fc48 fc49 fc53 pr19 fc54 fc55 g_b4 (Ne.symm nz37) g_b5_0 u5_12 fc56 nz37 fc57 nz41 nz45 nz50 fc58 fc59 g_b5_1 fc60 fc61 pr29 pr25 nz62 u5_3 nz63 nz64 nz65 fc66 fc67 g_b5_2 fc68 fc69 nz70 u5_4 nz71 nz72 nz73 u5_5 (Ne.symm nz62) (Ne.symm nz70) pr21 pr22 pr23 pr24 pr30 pr31 pr32 pr33 pr34 pr18 pr35 pr36 pr37 pr20 ⟨hZ, hx, hy, hml, ho, hnm, Bd.returns, X34, rfl, N34⟩ (by decide) (by decide)
    obtain ⟨fs, hr, hrun, hended, hW, hsame⟩ := XX36.leave (v := some (.int 1)) (fun h => by rw [Bd.returns] at h; cases h)
    refine ⟨_, _, pre9 _ ?_, hrun, hended, _, _, rfl, ⟨rfl, hN36⟩, ⟨_, rfl⟩, hW.wide, hW.no_new_pair _, hsame.mono hk36.1 hk36.2⟩
    refine XS.ifNo X6.here hx rfl (hb hy at_98) rfl ((if0 _ _).trans (feq hf9).1) ?_
    refine xaload X6 hx hy at_101 rfl rfl ?_
    refine xiload X6 hx hy at_103 rfl ?_
    refine xaload X6 hx hy at_105 rfl rfl ?_
    refine st34 _ ?_
    exact sg36 fs hr
set_option maxRecDepth 65536 in
set_option maxHeartbeats 40000000 in
theorem comes_1 {Post : Tables → Env → Array Value → State → Outcome → State → Prop} (hpost : ∀ tb e args s v u, (limb_1_1.after args s (.returned v) u = true ∧ limb_1_2.after args s (.returned v) u = true ∧ True) → ReturnedEndW s (.returned v) u (Jvm.fieldLocs frame_1_writes args s ++ Jvm.arrayLocs frame_1_arrays args s ++ Jvm.staticLocs frame_1_statics s) 80 320 → Post tb e args s (.returned v) u) :
    ArmFor flags0 classFile x code maxLocals ret World_1 tables_1 room_1 Calls_1 rest_1 Pre_1 Post := by
  intro l hfl _ _ p e ha hc hk s m args below hf hA hF happ hP
  obtain ⟨hcalls, hrest, hpre⟩ := hP
  obtain ⟨-, -, -, hnamed, -, -, -, hat⟩ := (Spec.applies_iff hf).mp happ
  obtain ⟨hg, hn⟩ := and_e (Cond.before_iff.mp (show (Jvm.Cond.and given_1 narrow_1).before args s = true from hpre))
  obtain ⟨g85, g86⟩ := and_e hg
  obtain ⟨g87, g88⟩ := and_e g86
  obtain ⟨g89, g90⟩ := and_e g88
  obtain ⟨g91, g92⟩ := and_e g90
  obtain ⟨w0, w1, w2, w3, rfl⟩ : ∃ w0 w1 w2 w3 : Value, args = #[w0, w1, w2, w3] := by
    have hs : args.size = 4 := by simpa [Cond.value, given_1] using g85
    obtain ⟨L⟩ := args
    match L, hs with
    | [w0, w1, w2, w3], _ => exact ⟨w0, w1, w2, w3, rfl⟩
  have hw := fun d (hd : d ∈ tables_1) => atoms_spec (ws := Jvm.Cond.code x code maxLocals ret :: tables_1) hat d (List.mem_cons_of_mem _ hd)
  have hfit : Fit s := fun {y c} hc i hi => by
    obtain ⟨ha, rfl⟩ := Array.getElem?_eq_some_iff.mp hc
    have q := List.all_eq_true.mp ((Array.all_eq_true_iff_forall_mem.mp hF) _ (Array.getElem_mem ha)) i (List.mem_range.mpr hi)
    simpa [Array.getElem?_eq_getElem hi] using q
  obtain ⟨hsets, hown0⟩ := atoms_of _ (rest_1_c_eq ▸ (show rest_1_c.before _ s = true from hrest))
  obtain ⟨i0, ei0⟩ := is_v g87
  obtain rfl : w0 = (.int i0) := Option.some.inj ei0
  obtain ⟨i1, ei1⟩ := is_v g89
  obtain rfl : w1 = (.int i1) := Option.some.inj ei1
  obtain ⟨i2, ei2⟩ := isL_v g91
  obtain rfl : w2 = (.long i2) := Option.some.inj ei2
  obtain ⟨i3, ei3⟩ := isL_v g92
  obtain rfl : w3 = (.long i3) := Option.some.inj ei3
  obtain ⟨n1, n2⟩ := and_e hn
  obtain ⟨n3, n4⟩ := and_e n2
  obtain ⟨n5, n6⟩ := and_e n4
  obtain ⟨n7, n8⟩ := and_e n6
  obtain ⟨n9, n10⟩ := and_e n8
  obtain ⟨n11, n12⟩ := and_e n10
  obtain ⟨n13, n14⟩ := and_e n12
  obtain ⟨n15, n16⟩ := and_e n14
  obtain ⟨n17, n18⟩ := and_e n16
  obtain ⟨n19, n20⟩ := and_e n18
  obtain ⟨n21, n22⟩ := and_e n20
  obtain ⟨n23, n24⟩ := and_e n22
  obtain ⟨n25, n26⟩ := and_e n24
  obtain ⟨n27, n28⟩ := and_e n26
  obtain ⟨n29, n30⟩ := and_e n28
  obtain ⟨n31, n32⟩ := and_e n30
  obtain ⟨n33, n34⟩ := and_e n32
  obtain ⟨n35, n36⟩ := and_e n34
  obtain ⟨n37, n38⟩ := and_e n36
  obtain ⟨n39, n40⟩ := and_e n38
  obtain ⟨n41, n42⟩ := and_e n40
  obtain ⟨n43, n44⟩ := and_e n42
  obtain ⟨n45, n46⟩ := and_e n44
  obtain ⟨n47, n48⟩ := and_e n46
  obtain ⟨n49, n50⟩ := and_e n48
  obtain ⟨n51, n52⟩ := and_e n50
  obtain ⟨n53, n54⟩ := and_e n52
  obtain ⟨n55, n56⟩ := and_e n54
  obtain ⟨n57, n58⟩ := and_e n56
  obtain ⟨n59, n60⟩ := and_e n58
  obtain ⟨n61, n62⟩ := and_e n60
  obtain ⟨n63, n64⟩ := and_e n62
  obtain ⟨n65, n66⟩ := and_e n64
  obtain ⟨n67, n68⟩ := and_e n66
  obtain ⟨n69, n70⟩ := and_e n68
  obtain ⟨n71, n72⟩ := and_e n70
  obtain ⟨n73, n74⟩ := and_e n72
  obtain ⟨n75, n76⟩ := and_e n74
  obtain ⟨w_FIXED_FIELDS, ev77⟩ := exa_v n1
  have S_Condition_FIXED_FIELDS : Sta s s.heap "shadowsift/iptables/Condition" "FIXED_FIELDS" "Ljava/util/List;" (.ref w_FIXED_FIELDS) := Sta.start ev77 (Or.inr ⟨(wd47 hw), (wd53 hw)⟩)
  have E_w_FIXED_FIELDS : Exa s s.heap w_FIXED_FIELDS "java/util/ImmutableCollections$ListN" := Exa.start ev77 n1
  obtain ⟨w_EMPTY_ELEMENTDATA, ev78⟩ := exa_v (Cond.before_iff.mp (hsets _ (List.mem_of_getElem? (i := 13) rfl)))
  have S_ArrayList_EMPTY_ELEMENTDATA : Sta s s.heap "java/util/ArrayList" "EMPTY_ELEMENTDATA" "[Ljava/lang/Object;" (.ref w_EMPTY_ELEMENTDATA) := Sta.start ev78 (Or.inl (hsets _ (List.mem_of_getElem? (i := 10) rfl)))
  have E_w_EMPTY_ELEMENTDATA : Exa s s.heap w_EMPTY_ELEMENTDATA "[Ljava/lang/Object;" := Exa.start ev78 (Cond.before_iff.mp (hsets _ (List.mem_of_getElem? (i := 13) rfl)))
  obtain ⟨w_DEFAULTCAPACITY_EMPTY_ELEMENTDATA, ev79⟩ := exa_v (Cond.before_iff.mp (hsets _ (List.mem_of_getElem? (i := 16) rfl)))
  have S_ArrayList_DEFAULTCAPACITY_EMPTY_ELEMENTDATA : Sta s s.heap "java/util/ArrayList" "DEFAULTCAPACITY_EMPTY_ELEMENTDATA" "[Ljava/lang/Object;" (.ref w_DEFAULTCAPACITY_EMPTY_ELEMENTDATA) := Sta.start ev79 (Or.inr ⟨(wd72 hw), (hsets _ (List.mem_of_getElem? (i := 11) rfl))⟩)
  have E_w_DEFAULTCAPACITY_EMPTY_ELEMENTDATA : Exa s s.heap w_DEFAULTCAPACITY_EMPTY_ELEMENTDATA "[Ljava/lang/Object;" := Exa.start ev79 (Cond.before_iff.mp (hsets _ (List.mem_of_getElem? (i := 16) rfl)))
  obtain ⟨w_EMPTY, ev80⟩ := exa_v (Cond.before_iff.mp (hsets _ (List.mem_of_getElem? (i := 20) rfl)))
  have S_Optional_EMPTY : Sta s s.heap "java/util/Optional" "EMPTY" "Ljava/util/Optional;" (.ref w_EMPTY) := Sta.start ev80 (Or.inl (hsets _ (List.mem_of_getElem? (i := 19) rfl)))
  have E_w_EMPTY : Exa s s.heap w_EMPTY "java/util/Optional" := Exa.start ev80 (Cond.before_iff.mp (hsets _ (List.mem_of_getElem? (i := 20) rfl)))
  obtain ⟨n_COMPACT_STRINGS, ev81⟩ := is_v (Cond.before_iff.mp (hsets _ (List.mem_of_getElem? (i := 1) rfl)))
  have S_String_COMPACT_STRINGS : Sta s s.heap "java/lang/String" "COMPACT_STRINGS" "Z" (.int n_COMPACT_STRINGS) := Sta.start ev81 (Or.inl (hsets _ (List.mem_of_getElem? (i := 0) rfl)))
  have ev82 := null_v (Cond.before_iff.mp (hsets _ (List.mem_of_getElem? (i := 21) rfl)))
  have F_83 : Fld s s.heap w_EMPTY "java/util/Optional" "value" "Ljava/lang/Object;" .null := Fld.start ((fld_at ev80).symm.trans ev82)
  have nz84 : ¬ (n_COMPACT_STRINGS = (0 : Int32)) := gotF (Cond.eq_ints ev81 (Term.int_eval (0))) (not_v (Cond.before_iff.mp (hsets _ (List.mem_of_getElem? (i := 2) rfl))))
  obtain ⟨k_w_EMPTY_ELEMENTDATA, V_w_EMPTY_ELEMENTDATA⟩ := own_arr0 hfit ev78 (Cond.before_iff.mp (hsets _ (List.mem_of_getElem? (i := 12) rfl))) (Cond.before_iff.mp (hsets _ (List.mem_of_getElem? (i := 14) rfl)))
  obtain ⟨k_w_DEFAULTCAPACITY_EMPTY_ELEMENTDATA, V_w_DEFAULTCAPACITY_EMPTY_ELEMENTDATA⟩ := own_arr0 hfit ev79 (Cond.before_iff.mp (hsets _ (List.mem_of_getElem? (i := 15) rfl))) (Cond.before_iff.mp (hsets _ (List.mem_of_getElem? (i := 17) rfl)))
  obtain ⟨w_el, ev_el⟩ := arr_v n3
  have F_el : Fld s s.heap w_FIXED_FIELDS "java/util/ImmutableCollections$ListN" "elements" "[Ljava/lang/Object;" (.ref w_el) := Fld.start ((fld_at ev77).symm.trans ev_el)
  obtain ⟨c_el, A_el⟩ := Arr.start ev_el n3
  have L_el := own_len ev_el (A_el.fin (Vm.Alike.refl _)) (own_eqI n5)
  obtain ⟨wf0, evf0⟩ := exa_v n19
  obtain ⟨wf1, evf1⟩ := exa_v n31
  obtain ⟨wf2, evf2⟩ := exa_v n25
  obtain ⟨wf3, evf3⟩ := exa_v n7
  obtain ⟨wf4, evf4⟩ := exa_v n73
  obtain ⟨wf5, evf5⟩ := exa_v n55
  obtain ⟨wf6, evf6⟩ := exa_v n61
  obtain ⟨wf7, evf7⟩ := exa_v n37
  obtain ⟨wf8, evf8⟩ := exa_v n67
  obtain ⟨wf9, evf9⟩ := exa_v n49
  obtain ⟨wf10, evf10⟩ := exa_v n43
  obtain ⟨wf11, evf11⟩ := exa_v n13
  obtain ⟨v1, H, k_el, W_el, E_v1, F_low, F_high, H_0, H_48⟩ : ∃ (w : Addr) (H : Int64) (k : ClassId), Asl s s.heap w_el k (.object "java/lang/Object") (12 : Int32) (((i1 &&& (2147483647 : Int32)) % (12 : Int32))) (.ref w) ∧ Exa s s.heap w "shadowsift/core/Field" ∧ Fld s s.heap w "shadowsift/core/Field" "low" "J" (.long (0 : Int64)) ∧ Fld s s.heap w "shadowsift/core/Field" "high" "J" (.long H) ∧ ¬ (H < (0 : Int64)) ∧ ¬ ((281474976710656 : Int64) < H) := by
    rcases own_ix12 i1 with h | h | h | h | h | h | h | h | h | h | h | h
    · exact ⟨wf0, (4294967295 : Int64), c_el.cls, own_asl (own_ix i1) A_el L_el ev_el h evf0, Exa.start evf0 n19, Fld.start ((fld_at evf0).symm.trans (eqv_l rfl n21)), Fld.start ((fld_at evf0).symm.trans (eqv_l rfl n23)), by decide, by decide⟩
    · exact ⟨wf1, (4294967295 : Int64), c_el.cls, own_asl (own_ix i1) A_el L_el ev_el h evf1, Exa.start evf1 n31, Fld.start ((fld_at evf1).symm.trans (eqv_l rfl n33)), Fld.start ((fld_at evf1).symm.trans (eqv_l rfl n35)), by decide, by decide⟩
    · exact ⟨wf2, (255 : Int64), c_el.cls, own_asl (own_ix i1) A_el L_el ev_el h evf2, Exa.start evf2 n25, Fld.start ((fld_at evf2).symm.trans (eqv_l rfl n27)), Fld.start ((fld_at evf2).symm.trans (eqv_l rfl n29)), by decide, by decide⟩
    · exact ⟨wf3, (0 : Int64), c_el.cls, own_asl (own_ix i1) A_el L_el ev_el h evf3, Exa.start evf3 n7, Fld.start ((fld_at evf3).symm.trans (eqv_l rfl n9)), Fld.start ((fld_at evf3).symm.trans (eqv_l rfl n11)), by decide, by decide⟩
    · exact ⟨wf4, (0 : Int64), c_el.cls, own_asl (own_ix i1) A_el L_el ev_el h evf4, Exa.start evf4 n73, Fld.start ((fld_at evf4).symm.trans (eqv_l rfl n75)), Fld.start ((fld_at evf4).symm.trans (eqv_l rfl n76)), by decide, by decide⟩
    · exact ⟨wf5, (1 : Int64), c_el.cls, own_asl (own_ix i1) A_el L_el ev_el h evf5, Exa.start evf5 n55, Fld.start ((fld_at evf5).symm.trans (eqv_l rfl n57)), Fld.start ((fld_at evf5).symm.trans (eqv_l rfl n59)), by decide, by decide⟩
    · exact ⟨wf6, (65535 : Int64), c_el.cls, own_asl (own_ix i1) A_el L_el ev_el h evf6, Exa.start evf6 n61, Fld.start ((fld_at evf6).symm.trans (eqv_l rfl n63)), Fld.start ((fld_at evf6).symm.trans (eqv_l rfl n65)), by decide, by decide⟩
    · exact ⟨wf7, (65535 : Int64), c_el.cls, own_asl (own_ix i1) A_el L_el ev_el h evf7, Exa.start evf7 n37, Fld.start ((fld_at evf7).symm.trans (eqv_l rfl n39)), Fld.start ((fld_at evf7).symm.trans (eqv_l rfl n41)), by decide, by decide⟩
    · exact ⟨wf8, (65535 : Int64), c_el.cls, own_asl (own_ix i1) A_el L_el ev_el h evf8, Exa.start evf8 n67, Fld.start ((fld_at evf8).symm.trans (eqv_l rfl n69)), Fld.start ((fld_at evf8).symm.trans (eqv_l rfl n71)), by decide, by decide⟩
    · exact ⟨wf9, (4 : Int64), c_el.cls, own_asl (own_ix i1) A_el L_el ev_el h evf9, Exa.start evf9 n49, Fld.start ((fld_at evf9).symm.trans (eqv_l rfl n51)), Fld.start ((fld_at evf9).symm.trans (eqv_l rfl n53)), by decide, by decide⟩
    · exact ⟨wf10, (63 : Int64), c_el.cls, own_asl (own_ix i1) A_el L_el ev_el h evf10, Exa.start evf10 n43, Fld.start ((fld_at evf10).symm.trans (eqv_l rfl n45)), Fld.start ((fld_at evf10).symm.trans (eqv_l rfl n47)), by decide, by decide⟩
    · exact ⟨wf11, (281474976710656 : Int64), c_el.cls, own_asl (own_ix i1) A_el L_el ev_el h evf11, Exa.start evf11 n13, Fld.start ((fld_at evf11).symm.trans (eqv_l rfl n15)), Fld.start ((fld_at evf11).symm.trans (eqv_l rfl n17)), by decide, by decide⟩
  have R : MetFree l x (head1 (Jvm.Cond.code x code maxLocals ret :: tables_1) room_1) (fun a U => a = #[(.int i0), (.int i1), (.long i2), (.long i3)] ∧ s.Warmed39 U.vm ∧ U.heap = s.heap) (fun _ _ _ _ _ => True) (fun _ U o U' => ∃ v L, o = .returned v ∧ Q0 s.heap.size v L ∧ ReturnedEndW U o U' L 80 320) := by
    exact rm0 l s _ hw tables_1 i0 i1 i2 i3 _ _ _ _ _ _ _ _ _ _ _ _ _ _ n_COMPACT_STRINGS w_FIXED_FIELDS w_el v1 k_el w_DEFAULTCAPACITY_EMPTY_ELEMENTDATA _ k_w_DEFAULTCAPACITY_EMPTY_ELEMENTDATA H w_EMPTY s.heap s.heap.size (Old.start s) rfl rfl rfl rfl rfl rfl rfl rfl rfl rfl rfl rfl rfl rfl S_String_COMPACT_STRINGS nz84 (own_ch i2) (own_b1 i2) (own_b2 i2 i3) (own_b3 i2 i3) S_Condition_FIXED_FIELDS F_el W_el E_w_FIXED_FIELDS S_ArrayList_DEFAULTCAPACITY_EMPTY_ELEMENTDATA (own_ix i1).1 (own_ix i1).2 rfl V_w_DEFAULTCAPACITY_EMPTY_ELEMENTDATA E_v1 F_low F_high H_0 H_48 S_Optional_EMPTY F_83 E_w_EMPTY
  obtain ⟨n, o, h1, h2, h3, _, L, rfl, ⟨rfl, N⟩, hq⟩ := R p e ha hc hk s m _ below hf ((Spec.applies_iff_loose hf).mp happ).1 ⟨rfl, State.Warmed39.refl s, rfl⟩ trivial
  refine ⟨n, _, h1, h2, h3, hpost _ _ _ _ _ _ ⟨Cond.after_iff.mpr rfl, Cond.after_iff.mpr (eq_i res_at (Term.int_eval (1)) rfl), trivial⟩ ⟨hq.1, hq.2.1, hq.2.2.1, (hq.2.2.2.sift fun y hy => Or.inr (N y hy)).mono (by decide) (by decide)⟩⟩
theorem main_1_1 : Claimed_1_1 := comes_1 fun _ _ _ _ _ _ h hF => ⟨h.1, hF⟩
theorem main_1_2 : Claimed_1_2 := comes_1 fun _ _ _ _ _ _ h hF => ⟨h.2.1, hF⟩
end Jvm.Pilot.@@N@@
namespace Jvm.Pilot.@@N@@
open Jvm Jvm.ClassFile Sem Op Lib Jvm.Free Jvm.Stand Jvm.Pilot.@@N@@.Jvm.D
/-! MADE BY PROGRAM (witnessworld.py) out of the Statement's table words and the real class files: 45 classes; the members and pool entries that the words name. The judged class is class 1, her method 1. -/
namespace start1
open Jvm.ClassFile
def u (s : String) : CpInfo := .utf8 (stringToUtf16 s)
/-- a pool by its gaps: so many unusable entries, then the entry; so many at the end -/
def gap : Nat → List CpInfo → List CpInfo
  | 0, r => r
  | n + 1, r => .unusable :: gap n r
def poolList (es : List (Nat × CpInfo)) (last : Nat) : List CpInfo := es.foldr (fun e r => gap e.1 (e.2 :: r)) (gap last [])
def pool (es : List (Nat × CpInfo)) (last : Nat) : Array CpInfo := ⟨poolList es last⟩
def fileOf (pool : Array CpInfo) (this : Nat) (attrs : Array Attribute := #[]) (ms : Array MethodInfo := #[]) (fl : Nat := 33) (sup : Nat := 0) (ifs : Array Nat := #[]) (fds : Array FieldInfo := #[]) : ClassFile where
  minorVersion := 0
  majorVersion := 65
  constantPool := pool
  accessFlags := fl
  thisClass := this
  superClass := sup
  interfaces := ifs
  fields := fds
  methods := ms
  attributes := attrs
def plain (name : String) (sup : Option ClassId) : Class where
  name := name
  kind := .ordinary
  loader := none
  accessFlags := 33
  super := sup
  interfaces := #[]
  cf := none
  fields := #[]
  methods := #[]
  instanceTypes := #[]
  staticTypes := #[]
  resolved := #[]
  callSites := []
  init := .initialized
  statics := none
  mirror := none

def pool0 : Array CpInfo := pool [(5, u "<init>"), (0, u "()V"), (1, .class_ 10), (1, u "java/lang/Object"), (85, u "clone"), (0, u "()Ljava/lang/Object;")] 26

def k0c0 : Code := { maxStack := 0, maxLocals := 1, code := object_method_1_code, exceptionTable := #[], attributes := #[] }
def k0m0 : Method := { name := "<init>", desc := "()V", sig := { parameters := [], returnType := none }, accessFlags := 1, code := some k0c0 }
def k0m1 : Method := { name := "clone", desc := "()Ljava/lang/Object;", sig := { parameters := [], returnType := some (.object "java/lang/Object") }, accessFlags := 260, code := none }
/-- java/lang/Object -/
def k0 : Class := { plain "java/lang/Object" none with
  accessFlags := 33
  interfaces := #[]
  cf := some (fileOf pool0 8 #[] #[{ accessFlags := 1, nameIndex := 5, descriptorIndex := 6, attributes := #[] }, { accessFlags := 260, nameIndex := 96, descriptorIndex := 97, attributes := #[] }] 33 0 #[] #[])
  fields := #[]
  methods := #[k0m0, k0m1]
  instanceTypes := #[]
  staticTypes := #[]
  resolved := Array.replicate 124 none
  statics := none }

def pool1 : Array CpInfo := pool [(2, .class_ 4), (0, .nameAndType 5 6), (0, u "java/lang/Object"), (0, u "<init>"), (0, u "()V"), (0, .integer 2147483647), (0, .long 65535), (1, .long 255), (1, .methodref 13 14), (0, .class_ 15), (0, .nameAndType 16 17), (0, u "java/lang/String"), (0, u "valueOf"), (0, u "(C)Ljava/lang/String;"), (0, .methodref 19 20), (0, .class_ 21), (0, .nameAndType 22 23), (0, u "shadowsift/core/ValueSet"), (0, u "range"), (0, u "(JJ)Lshadowsift/core/ValueSet;"), (0, .class_ 25), (0, u "shadowsift/iptables/Condition"), (0, .methodref 24 3), (0, .methodref 24 28), (0, .nameAndType 29 30), (0, u "exact"), (0, u "()Z"), (0, .methodref 24 32), (0, .nameAndType 33 34), (0, u "require"), (0, u "(ILshadowsift/core/ValueSet;)V"), (0, .methodref 24 36), (0, .nameAndType 37 34), (0, u "exclude"), (0, .methodref 24 39), (0, .nameAndType 40 6), (0, u "requireNothing"), (0, .methodref 24 42), (0, .nameAndType 43 44), (0, u "requireEitherPort"), (0, u "(Lshadowsift/core/ValueSet;)V"), (0, .methodref 24 46), (0, .nameAndType 47 48), (0, u "requireInterface"), (0, u "(ILjava/lang/String;Z)V"), (0, .methodref 24 50), (0, .nameAndType 51 6), (0, u "requireUnmodelled"), (0, .class_ 53), (0, u "shadowsift/iptables/ConditionExactPinLaw"), (2, u "law"), (0, u "(IIJJ)Z")] 3

def k1m0 : Method := { name := "<init>", desc := "()V", sig := { parameters := [], returnType := none }, accessFlags := 1, code := none }
def k1c1 : Code := { maxStack := 6, maxLocals := 21, code := code, exceptionTable := #[], attributes := #[] }
def k1m1 : Method := { name := "law", desc := "(IIJJ)Z", sig := { parameters := [.int, .int, .long, .long], returnType := some .boolean }, accessFlags := 9, code := some k1c1 }
/-- shadowsift/iptables/ConditionExactPinLaw -/
def k1 : Class := { plain "shadowsift/iptables/ConditionExactPinLaw" (some 0) with
  accessFlags := 49
  interfaces := #[]
  cf := some (fileOf pool1 52 #[] #[{ accessFlags := 1, nameIndex := 5, descriptorIndex := 6, attributes := #[] }, { accessFlags := 9, nameIndex := 56, descriptorIndex := 57, attributes := #[] }] 49 2 #[] #[])
  fields := #[]
  methods := #[k1m0, k1m1]
  instanceTypes := #[]
  staticTypes := #[]
  resolved := Array.replicate 61 none
  statics := none }

def pool2 : Array CpInfo := pool [(1, .class_ 2), (0, u "java/io/Serializable"), (0, .class_ 4), (0, u "java/lang/Object")] 2

/-- java/io/Serializable -/
def k2 : Class := { plain "java/io/Serializable" (some 0) with
  accessFlags := 1537
  interfaces := #[]
  cf := some (fileOf pool2 1 #[] #[] 1537 3 #[] #[])
  fields := #[]
  methods := #[]
  instanceTypes := #[]
  staticTypes := #[]
  resolved := Array.replicate 7 none
  statics := none }

def pool3 : Array CpInfo := pool [(1, .class_ 2), (0, u "java/lang/Comparable"), (0, .class_ 4), (0, u "java/lang/Object")] 7

/-- java/lang/Comparable -/
def k3 : Class := { plain "java/lang/Comparable" (some 0) with
  accessFlags := 1537
  interfaces := #[]
  cf := some (fileOf pool3 1 #[] #[] 1537 3 #[] #[])
  fields := #[]
  methods := #[]
  instanceTypes := #[]
  staticTypes := #[]
  resolved := Array.replicate 12 none
  statics := none }

def pool4 : Array CpInfo := pool [(2, .class_ 4), (1, u "java/lang/CharSequence"), (42, .class_ 48), (0, u "java/lang/CharSequence$1CodePointIterator"), (10, .class_ 60), (0, u "java/lang/CharSequence$1CharIterator"), (5, .class_ 67), (0, u "java/lang/Object")] 63

/-- java/lang/CharSequence -/
def k4 : Class := { plain "java/lang/CharSequence" (some 0) with
  accessFlags := 1537
  interfaces := #[]
  cf := some (fileOf pool4 2 #[.nestMembers #[47, 59]] #[] 1537 66 #[] #[])
  fields := #[]
  methods := #[]
  instanceTypes := #[]
  staticTypes := #[]
  resolved := Array.replicate 131 none
  statics := none }

def pool5 : Array CpInfo := pool [(1, .class_ 2), (0, u "java/lang/constant/Constable"), (0, .class_ 4), (0, u "java/lang/Object")] 6

/-- java/lang/constant/Constable -/
def k5 : Class := { plain "java/lang/constant/Constable" (some 0) with
  accessFlags := 1537
  interfaces := #[]
  cf := some (fileOf pool5 1 #[] #[] 1537 3 #[] #[])
  fields := #[]
  methods := #[]
  instanceTypes := #[]
  staticTypes := #[]
  resolved := Array.replicate 11 none
  statics := none }

def pool6 : Array CpInfo := pool [(1, .class_ 2), (0, u "java/lang/constant/ConstantDesc"), (0, .class_ 4), (0, u "java/lang/Object")] 32

/-- java/lang/constant/ConstantDesc -/
def k6 : Class := { plain "java/lang/constant/ConstantDesc" (some 0) with
  accessFlags := 1537
  interfaces := #[]
  cf := some (fileOf pool6 1 #[] #[] 1537 3 #[] #[])
  fields := #[]
  methods := #[]
  instanceTypes := #[]
  staticTypes := #[]
  resolved := Array.replicate 37 none
  statics := none }

def pool7 : Array CpInfo := pool [(1, .methodref 2 3), (0, .class_ 4), (0, .nameAndType 5 6), (0, u "java/lang/Object"), (0, u "<init>"), (0, u "()V"), (2, .fieldref 10 11), (0, .class_ 12), (0, .nameAndType 13 14), (0, u "java/lang/String"), (0, u "value"), (0, u "[B"), (0, .fieldref 10 16), (0, .nameAndType 17 18), (0, u "coder"), (0, u "B"), (2, u "hash"), (0, u "I"), (2, u "hashIsZero"), (0, u "Z"), (11, .fieldref 10 39), (0, .nameAndType 40 26), (0, u "COMPACT_STRINGS"), (12, u "toBytes"), (53, .class_ 109), (1, u "java/lang/StringLatin1"), (99, .methodref 10 210), (0, .nameAndType 5 211), (0, u "([BB)V"), (157, u "(C)Z"), (205, .class_ 576), (0, u "java/lang/CharSequence"), (22, u "CASE_INSENSITIVE_ORDER"), (0, u "Ljava/util/Comparator;"), (181, u "valueOf"), (0, u "(C)Ljava/lang/String;"), (231, .methodref 107 1016), (0, .nameAndType 1017 369), (0, u "canEncode"), (0, .methodref 107 1019), (0, .nameAndType 53 1020), (0, u "(C)[B"), (80, u "serialPersistentFields"), (0, u "[Ljava/io/ObjectStreamField;"), (0, .class_ 1104), (0, u "java/lang/String$CaseInsensitiveComparator"), (1, .class_ 1107), (0, u "java/io/Serializable"), (0, .class_ 1109), (0, u "java/lang/Comparable"), (0, .class_ 1111), (0, u "java/lang/constant/Constable"), (0, .class_ 1113), (0, u "java/lang/constant/ConstantDesc"), (2, u "serialVersionUID"), (0, u "J"), (3, u "REPL"), (0, u "C"), (2, u "LATIN1"), (1, u "UTF16")] 323

def k7m0 : Method := { name := "<init>", desc := "()V", sig := { parameters := [], returnType := none }, accessFlags := 1, code := none }
def k7c1 : Code := { maxStack := 4, maxLocals := 1, code := jdk_42_method_139_code, exceptionTable := #[], attributes := #[] }
def k7m1 : Method := { name := "valueOf", desc := "(C)Ljava/lang/String;", sig := { parameters := [.char], returnType := some (.object "java/lang/String") }, accessFlags := 9, code := some k7c1 }
def k7c2 : Code := { maxStack := 2, maxLocals := 3, code := jdk_42_method_151_code, exceptionTable := #[], attributes := #[] }
def k7m2 : Method := { name := "<init>", desc := "([BB)V", sig := { parameters := [(.array .byte), .byte], returnType := none }, accessFlags := 0, code := some k7c2 }
/-- java/lang/String -/
def k7 : Class := { plain "java/lang/String" (some 0) with
  accessFlags := 49
  interfaces := #[2, 3, 4, 5, 6]
  cf := some (fileOf pool7 10 #[.nestMembers #[1103]] #[{ accessFlags := 1, nameIndex := 5, descriptorIndex := 6, attributes := #[] }, { accessFlags := 9, nameIndex := 782, descriptorIndex := 783, attributes := #[] }, { accessFlags := 0, nameIndex := 5, descriptorIndex := 211, attributes := #[] }] 49 2 #[1106, 1108, 575, 1110, 1112] #[{ accessFlags := 18, nameIndex := 13, descriptorIndex := 14, attributes := #[] }, { accessFlags := 18, nameIndex := 17, descriptorIndex := 18, attributes := #[] }, { accessFlags := 2, nameIndex := 21, descriptorIndex := 22, attributes := #[] }, { accessFlags := 2, nameIndex := 25, descriptorIndex := 26, attributes := #[] }, { accessFlags := 26, nameIndex := 1116, descriptorIndex := 1117, attributes := #[] }, { accessFlags := 24, nameIndex := 40, descriptorIndex := 26, attributes := #[] }, { accessFlags := 26, nameIndex := 1101, descriptorIndex := 1102, attributes := #[] }, { accessFlags := 26, nameIndex := 1121, descriptorIndex := 1122, attributes := #[] }, { accessFlags := 25, nameIndex := 599, descriptorIndex := 600, attributes := #[] }, { accessFlags := 24, nameIndex := 1125, descriptorIndex := 18, attributes := #[] }, { accessFlags := 24, nameIndex := 1127, descriptorIndex := 18, attributes := #[] }])
  fields := #[{ name := "value", type := (.array .byte), accessFlags := 18, slot := 0, constantValue := 0 }, { name := "coder", type := .byte, accessFlags := 18, slot := 1, constantValue := 0 }, { name := "hash", type := .int, accessFlags := 2, slot := 2, constantValue := 0 }, { name := "hashIsZero", type := .boolean, accessFlags := 2, slot := 3, constantValue := 0 }, { name := "serialVersionUID", type := .long, accessFlags := 26, slot := 0, constantValue := 0 }, { name := "COMPACT_STRINGS", type := .boolean, accessFlags := 24, slot := 1, constantValue := 0 }, { name := "serialPersistentFields", type := (.array (.object "java/io/ObjectStreamField")), accessFlags := 26, slot := 2, constantValue := 0 }, { name := "REPL", type := .char, accessFlags := 26, slot := 3, constantValue := 0 }, { name := "CASE_INSENSITIVE_ORDER", type := (.object "java/util/Comparator"), accessFlags := 25, slot := 4, constantValue := 0 }, { name := "LATIN1", type := .byte, accessFlags := 24, slot := 5, constantValue := 0 }, { name := "UTF16", type := .byte, accessFlags := 24, slot := 6, constantValue := 0 }]
  methods := #[k7m0, k7m1, k7m2]
  instanceTypes := #[(.array .byte), .byte, .int, .boolean]
  staticTypes := #[.long, .boolean, (.array (.object "java/io/ObjectStreamField")), .char, (.object "java/util/Comparator"), .byte, .byte]
  resolved := Array.replicate 1451 none
  statics := some 0 }

def pool8 : Array CpInfo := pool [(4, .class_ 6), (1, u "java/lang/Object"), (0, u "<init>"), (0, u "()V"), (5, .class_ 16), (1, u "java/lang/StringLatin1"), (73, u "canEncode"), (14, u "(C)Z"), (15, u "$assertionsDisabled"), (0, u "Z"), (98, .class_ 223), (1, u "java/lang/StringLatin1$LinesSpliterator"), (156, u "toBytes"), (1, u "(C)[B"), (7, .class_ 391), (0, u "java/lang/StringLatin1$CharsSpliterator")] 3

def k8m0 : Method := { name := "<init>", desc := "()V", sig := { parameters := [], returnType := none }, accessFlags := 0, code := none }
def k8c1 : Code := { maxStack := 2, maxLocals := 1, code := jdk_43_method_3_code, exceptionTable := #[], attributes := #[] }
def k8m1 : Method := { name := "canEncode", desc := "(C)Z", sig := { parameters := [.char], returnType := some .boolean }, accessFlags := 9, code := some k8c1 }
def k8c2 : Code := { maxStack := 4, maxLocals := 1, code := jdk_43_method_46_code, exceptionTable := #[], attributes := #[] }
def k8m2 : Method := { name := "toBytes", desc := "(C)[B", sig := { parameters := [.char], returnType := some (.array .byte) }, accessFlags := 9, code := some k8c2 }
/-- java/lang/StringLatin1 -/
def k8 : Class := { plain "java/lang/StringLatin1" (some 0) with
  accessFlags := 48
  interfaces := #[]
  cf := some (fileOf pool8 14 #[.nestMembers #[390, 221]] #[{ accessFlags := 0, nameIndex := 7, descriptorIndex := 8, attributes := #[] }, { accessFlags := 9, nameIndex := 90, descriptorIndex := 105, attributes := #[] }, { accessFlags := 9, nameIndex := 380, descriptorIndex := 382, attributes := #[] }] 48 4 #[] #[{ accessFlags := 4120, nameIndex := 121, descriptorIndex := 122, attributes := #[] }])
  fields := #[{ name := "$assertionsDisabled", type := .boolean, accessFlags := 4120, slot := 0, constantValue := 0 }]
  methods := #[k8m0, k8m1, k8m2]
  instanceTypes := #[]
  staticTypes := #[.boolean]
  resolved := Array.replicate 395 none
  statics := none }

def pool9 : Array CpInfo := pool [(1, .methodref 2 3), (0, .class_ 4), (0, .nameAndType 5 6), (0, u "java/lang/Object"), (0, u "<init>"), (0, u "()V"), (0, .fieldref 8 9), (0, .class_ 10), (0, .nameAndType 11 12), (0, u "shadowsift/core/ValueSet"), (0, u "lows"), (0, u "[J"), (0, .fieldref 8 14), (0, .nameAndType 15 12), (0, u "highs"), (2, .long 281474976710656), (10, .methodref 8 30), (0, .nameAndType 5 31), (0, u "([J[J)V"), (55, .methodref 88 89), (0, .class_ 90), (0, .nameAndType 91 92), (0, u "java/lang/Math"), (0, u "max"), (0, u "(JJ)J"), (4, .class_ 98), (0, u "shadowsift/core/ValueSet$Builder"), (0, .methodref 97 100), (0, .nameAndType 5 101), (0, u "(I)V"), (0, .methodref 88 103), (0, .nameAndType 104 92), (0, u "min"), (0, .methodref 97 106), (0, .nameAndType 107 108), (0, u "add"), (0, u "(JJ)V"), (0, .methodref 97 110), (0, .nameAndType 111 112), (0, u "set"), (0, u "()Ljava/util/Optional;"), (33, u "range"), (0, u "(JJ)Lshadowsift/core/ValueSet;"), (7, u "intersection"), (0, u "(Lshadowsift/core/ValueSet;)Ljava/util/Optional;"), (1, u "without")] 50

def k9c0 : Code := { maxStack := 2, maxLocals := 3, code := prog_63_method_1_code, exceptionTable := #[], attributes := #[] }
def k9m0 : Method := { name := "<init>", desc := "([J[J)V", sig := { parameters := [(.array .long), (.array .long)], returnType := none }, accessFlags := 2, code := some k9c0 }
def k9c1 : Code := { maxStack := 8, maxLocals := 4, code := prog_63_method_2_code, exceptionTable := #[], attributes := #[] }
def k9m1 : Method := { name := "range", desc := "(JJ)Lshadowsift/core/ValueSet;", sig := { parameters := [.long, .long], returnType := some (.object "shadowsift/core/ValueSet") }, accessFlags := 9, code := some k9c1 }
def k9c2 : Code := { maxStack := 7, maxLocals := 5, code := prog_63_method_4_code, exceptionTable := #[], attributes := #[] }
def k9m2 : Method := { name := "intersection", desc := "(Lshadowsift/core/ValueSet;)Ljava/util/Optional;", sig := { parameters := [(.object "shadowsift/core/ValueSet")], returnType := some (.object "java/util/Optional") }, accessFlags := 1, code := some k9c2 }
def k9c3 : Code := { maxStack := 7, maxLocals := 8, code := prog_63_method_5_code, exceptionTable := #[], attributes := #[] }
def k9m3 : Method := { name := "without", desc := "(Lshadowsift/core/ValueSet;)Ljava/util/Optional;", sig := { parameters := [(.object "shadowsift/core/ValueSet")], returnType := some (.object "java/util/Optional") }, accessFlags := 1, code := some k9c3 }
/-- shadowsift/core/ValueSet -/
def k9 : Class := { plain "shadowsift/core/ValueSet" (some 0) with
  accessFlags := 49
  interfaces := #[]
  cf := some (fileOf pool9 8 #[.nestMembers #[97]] #[{ accessFlags := 2, nameIndex := 5, descriptorIndex := 31, attributes := #[] }, { accessFlags := 9, nameIndex := 146, descriptorIndex := 147, attributes := #[] }, { accessFlags := 1, nameIndex := 155, descriptorIndex := 156, attributes := #[] }, { accessFlags := 1, nameIndex := 158, descriptorIndex := 156, attributes := #[] }] 49 2 #[] #[{ accessFlags := 18, nameIndex := 11, descriptorIndex := 12, attributes := #[] }, { accessFlags := 18, nameIndex := 15, descriptorIndex := 12, attributes := #[] }])
  fields := #[{ name := "lows", type := (.array .long), accessFlags := 18, slot := 0, constantValue := 0 }, { name := "highs", type := (.array .long), accessFlags := 18, slot := 1, constantValue := 0 }]
  methods := #[k9m0, k9m1, k9m2, k9m3]
  instanceTypes := #[(.array .long), (.array .long)]
  staticTypes := #[]
  resolved := Array.replicate 209 none
  statics := none }

def pool10 : Array CpInfo := pool [(1, .methodref 2 3), (0, .class_ 4), (0, .nameAndType 5 6), (0, u "java/lang/Object"), (0, u "<init>"), (0, u "()V"), (0, .fieldref 8 9), (0, .class_ 10), (0, .nameAndType 11 12), (0, u "shadowsift/iptables/Condition"), (0, u "FIXED_FIELDS"), (0, u "Ljava/util/List;"), (0, .interfaceMethodref 14 15), (0, .class_ 16), (0, .nameAndType 17 18), (0, u "java/util/List"), (0, u "size"), (0, u "()I"), (0, .class_ 20), (0, u "shadowsift/core/ValueSet"), (0, .fieldref 8 22), (0, .nameAndType 23 24), (0, u "sets"), (0, u "[Lshadowsift/core/ValueSet;"), (0, .class_ 26), (0, u "java/util/ArrayList"), (0, .methodref 25 3), (0, .fieldref 8 29), (0, .nameAndType 30 12), (0, u "interfaces"), (0, .fieldref 8 32), (0, .nameAndType 33 12), (0, u "eitherPort"), (0, .methodref 19 35), (0, .nameAndType 36 37), (0, u "intersection"), (0, u "(Lshadowsift/core/ValueSet;)Ljava/util/Optional;"), (0, .fieldref 8 39), (0, .nameAndType 40 41), (0, u "impossible"), (0, u "Z"), (0, .methodref 43 44), (0, .class_ 45), (0, .nameAndType 46 47), (0, u "java/util/Optional"), (0, u "isEmpty"), (0, u "()Z"), (0, .invokeDynamic 0 49), (0, .nameAndType 50 51), (0, u "accept"), (0, u "(Lshadowsift/iptables/Condition;I)Ljava/util/function/Consumer;"), (0, .methodref 43 53), (0, .nameAndType 54 55), (0, u "ifPresent"), (0, u "(Ljava/util/function/Consumer;)V"), (0, .fieldref 8 57), (0, .nameAndType 58 41), (0, u "unmodelled"), (0, .interfaceMethodref 14 60), (0, .nameAndType 61 62), (0, u "get"), (0, u "(I)Ljava/lang/Object;"), (0, .class_ 64), (0, u "shadowsift/core/Field"), (0, .methodref 63 66), (0, .nameAndType 67 68), (0, u "domain"), (0, u "()Lshadowsift/core/ValueSet;"), (0, .methodref 19 70), (0, .nameAndType 71 37), (0, u "without"), (0, .invokeDynamic 1 49), (0, .class_ 74), (0, u "shadowsift/iptables/Condition$InterfaceTest"), (0, .methodref 73 76), (0, .nameAndType 5 77), (0, u "(ILjava/lang/String;Z)V"), (0, .interfaceMethodref 14 79), (0, .nameAndType 80 81), (0, u "add"), (0, u "(Ljava/lang/Object;)Z"), (85, .methodref 8 168), (0, .nameAndType 169 170), (0, u "require"), (0, u "(ILshadowsift/core/ValueSet;)V"), (7, u "requireUnmodelled"), (0, u "exact"), (0, u "requireNothing"), (0, u "exclude"), (0, u "requireInterface"), (0, u "requireEitherPort"), (0, u "(Lshadowsift/core/ValueSet;)V"), (11, u "lambda$exclude$1"), (0, u "lambda$require$0"), (5, .methodType 204), (0, u "(Ljava/lang/Object;)V"), (0, .methodHandle 5 206), (0, .methodref 8 207), (0, .nameAndType 197 170), (0, .methodType 184), (0, .methodHandle 5 210), (0, .methodref 8 211), (0, .nameAndType 196 170), (15, .methodHandle 6 228), (0, .methodref 229 230), (0, .class_ 231), (0, .nameAndType 232 233), (0, u "java/lang/invoke/LambdaMetafactory"), (0, u "metafactory"), (0, u "(Ljava/lang/invoke/MethodHandles$Lookup;Ljava/lang/String;Ljava/lang/invoke/MethodType;Ljava/lang/invoke/MethodType;Ljava/lang/invoke/MethodHandle;Ljava/lang/invoke/MethodType;)Ljava/lang/invoke/CallSite;")] 7

def k10c0 : Code := { maxStack := 3, maxLocals := 1, code := prog_66_method_1_code, exceptionTable := #[], attributes := #[] }
def k10m0 : Method := { name := "<init>", desc := "()V", sig := { parameters := [], returnType := none }, accessFlags := 0, code := some k10c0 }
def k10c1 : Code := { maxStack := 3, maxLocals := 4, code := prog_66_method_2_code, exceptionTable := #[], attributes := #[] }
def k10m1 : Method := { name := "require", desc := "(ILshadowsift/core/ValueSet;)V", sig := { parameters := [.int, (.object "shadowsift/core/ValueSet")], returnType := none }, accessFlags := 0, code := some k10c1 }
def k10c2 : Code := { maxStack := 2, maxLocals := 1, code := prog_66_method_3_code, exceptionTable := #[], attributes := #[] }
def k10m2 : Method := { name := "requireUnmodelled", desc := "()V", sig := { parameters := [], returnType := none }, accessFlags := 0, code := some k10c2 }
def k10c3 : Code := { maxStack := 1, maxLocals := 1, code := prog_66_method_4_code, exceptionTable := #[], attributes := #[] }
def k10m3 : Method := { name := "exact", desc := "()Z", sig := { parameters := [], returnType := some .boolean }, accessFlags := 0, code := some k10c3 }
def k10c4 : Code := { maxStack := 2, maxLocals := 1, code := prog_66_method_5_code, exceptionTable := #[], attributes := #[] }
def k10m4 : Method := { name := "requireNothing", desc := "()V", sig := { parameters := [], returnType := none }, accessFlags := 0, code := some k10c4 }
def k10c5 : Code := { maxStack := 3, maxLocals := 4, code := prog_66_method_6_code, exceptionTable := #[], attributes := #[] }
def k10m5 : Method := { name := "exclude", desc := "(ILshadowsift/core/ValueSet;)V", sig := { parameters := [.int, (.object "shadowsift/core/ValueSet")], returnType := none }, accessFlags := 0, code := some k10c5 }
def k10c6 : Code := { maxStack := 6, maxLocals := 4, code := prog_66_method_7_code, exceptionTable := #[], attributes := #[] }
def k10m6 : Method := { name := "requireInterface", desc := "(ILjava/lang/String;Z)V", sig := { parameters := [.int, (.object "java/lang/String"), .boolean], returnType := none }, accessFlags := 0, code := some k10c6 }
def k10c7 : Code := { maxStack := 2, maxLocals := 2, code := prog_66_method_8_code, exceptionTable := #[], attributes := #[] }
def k10m7 : Method := { name := "requireEitherPort", desc := "(Lshadowsift/core/ValueSet;)V", sig := { parameters := [(.object "shadowsift/core/ValueSet")], returnType := none }, accessFlags := 0, code := some k10c7 }
def k10c8 : Code := { maxStack := 3, maxLocals := 3, code := prog_66_method_13_code, exceptionTable := #[], attributes := #[] }
def k10m8 : Method := { name := "lambda$exclude$1", desc := "(ILshadowsift/core/ValueSet;)V", sig := { parameters := [.int, (.object "shadowsift/core/ValueSet")], returnType := none }, accessFlags := 4098, code := some k10c8 }
def k10c9 : Code := { maxStack := 3, maxLocals := 3, code := prog_66_method_14_code, exceptionTable := #[], attributes := #[] }
def k10m9 : Method := { name := "lambda$require$0", desc := "(ILshadowsift/core/ValueSet;)V", sig := { parameters := [.int, (.object "shadowsift/core/ValueSet")], returnType := none }, accessFlags := 4098, code := some k10c9 }
/-- shadowsift/iptables/Condition -/
def k10 : Class := { plain "shadowsift/iptables/Condition" (some 0) with
  accessFlags := 48
  interfaces := #[]
  cf := some (fileOf pool10 8 #[.nestMembers #[73], .bootstrapMethods #[⟨227, #[203, 205, 208]⟩, ⟨227, #[203, 209, 208]⟩, ⟨0, #[]⟩, ⟨0, #[]⟩, ⟨0, #[]⟩]] #[{ accessFlags := 0, nameIndex := 5, descriptorIndex := 6, attributes := #[] }, { accessFlags := 0, nameIndex := 169, descriptorIndex := 170, attributes := #[] }, { accessFlags := 0, nameIndex := 178, descriptorIndex := 6, attributes := #[] }, { accessFlags := 0, nameIndex := 179, descriptorIndex := 47, attributes := #[] }, { accessFlags := 0, nameIndex := 180, descriptorIndex := 6, attributes := #[] }, { accessFlags := 0, nameIndex := 181, descriptorIndex := 170, attributes := #[] }, { accessFlags := 0, nameIndex := 182, descriptorIndex := 77, attributes := #[] }, { accessFlags := 0, nameIndex := 183, descriptorIndex := 184, attributes := #[] }, { accessFlags := 4098, nameIndex := 196, descriptorIndex := 170, attributes := #[] }, { accessFlags := 4098, nameIndex := 197, descriptorIndex := 170, attributes := #[] }] 48 2 #[] #[{ accessFlags := 26, nameIndex := 11, descriptorIndex := 12, attributes := #[] }, { accessFlags := 18, nameIndex := 23, descriptorIndex := 24, attributes := #[] }, { accessFlags := 2, nameIndex := 40, descriptorIndex := 41, attributes := #[] }, { accessFlags := 2, nameIndex := 58, descriptorIndex := 41, attributes := #[] }, { accessFlags := 18, nameIndex := 30, descriptorIndex := 12, attributes := #[] }, { accessFlags := 18, nameIndex := 33, descriptorIndex := 12, attributes := #[] }])
  fields := #[{ name := "FIXED_FIELDS", type := (.object "java/util/List"), accessFlags := 26, slot := 0, constantValue := 0 }, { name := "sets", type := (.array (.object "shadowsift/core/ValueSet")), accessFlags := 18, slot := 0, constantValue := 0 }, { name := "impossible", type := .boolean, accessFlags := 2, slot := 1, constantValue := 0 }, { name := "unmodelled", type := .boolean, accessFlags := 2, slot := 2, constantValue := 0 }, { name := "interfaces", type := (.object "java/util/List"), accessFlags := 18, slot := 3, constantValue := 0 }, { name := "eitherPort", type := (.object "java/util/List"), accessFlags := 18, slot := 4, constantValue := 0 }]
  methods := #[k10m0, k10m1, k10m2, k10m3, k10m4, k10m5, k10m6, k10m7, k10m8, k10m9]
  instanceTypes := #[(.array (.object "shadowsift/core/ValueSet")), .boolean, .boolean, (.object "java/util/List"), (.object "java/util/List")]
  staticTypes := #[(.object "java/util/List")]
  resolved := ((Array.replicate 241 none).setIfInBounds 75 (some (.method ⟨32, 0⟩))).setIfInBounds 73 (some (.cls 32))
  callSites := [(5, 36, .makes 43), (1, 44, .makes 44)]
  statics := some 1 }

def pool11 : Array CpInfo := pool [(8, .class_ 10), (1, u "java/lang/Iterable"), (24, .class_ 36), (0, u "java/lang/Object")] 25

/-- java/lang/Iterable -/
def k11 : Class := { plain "java/lang/Iterable" (some 0) with
  accessFlags := 1537
  interfaces := #[]
  cf := some (fileOf pool11 8 #[] #[] 1537 35 #[] #[])
  fields := #[]
  methods := #[]
  instanceTypes := #[]
  staticTypes := #[]
  resolved := Array.replicate 62 none
  statics := none }

def pool12 : Array CpInfo := pool [(10, .class_ 12), (1, u "java/util/Collection"), (47, .class_ 61), (0, u "java/lang/Object"), (0, .class_ 63), (0, u "java/lang/Iterable")] 51

/-- java/util/Collection -/
def k12 : Class := { plain "java/util/Collection" (some 0) with
  accessFlags := 1537
  interfaces := #[11]
  cf := some (fileOf pool12 10 #[] #[] 1537 60 #[62] #[])
  fields := #[]
  methods := #[]
  instanceTypes := #[]
  staticTypes := #[]
  resolved := Array.replicate 115 none
  statics := none }

def pool13 : Array CpInfo := pool [(8, .class_ 10), (1, u "java/util/SequencedCollection"), (15, .class_ 27), (0, u "java/lang/Object"), (0, .class_ 29), (0, u "java/util/Collection")] 27

/-- java/util/SequencedCollection -/
def k13 : Class := { plain "java/util/SequencedCollection" (some 0) with
  accessFlags := 1537
  interfaces := #[12]
  cf := some (fileOf pool13 8 #[] #[] 1537 26 #[28] #[])
  fields := #[]
  methods := #[]
  instanceTypes := #[]
  staticTypes := #[]
  resolved := Array.replicate 57 none
  statics := none }

def pool14 : Array CpInfo := pool [(8, .class_ 10), (1, u "java/util/List"), (49, u "add"), (3, u "(Ljava/lang/Object;)Z"), (10, u "get"), (0, u "(I)Ljava/lang/Object;"), (2, u "size"), (0, u "()I"), (22, .class_ 104), (0, u "java/lang/Object"), (15, .class_ 121), (0, u "java/util/SequencedCollection")] 129

def k14m0 : Method := { name := "size", desc := "()I", sig := { parameters := [], returnType := some .int }, accessFlags := 1025, code := none }
def k14m1 : Method := { name := "add", desc := "(Ljava/lang/Object;)Z", sig := { parameters := [(.object "java/lang/Object")], returnType := some .boolean }, accessFlags := 1025, code := none }
def k14m2 : Method := { name := "get", desc := "(I)Ljava/lang/Object;", sig := { parameters := [.int], returnType := some (.object "java/lang/Object") }, accessFlags := 1025, code := none }
/-- java/util/List -/
def k14 : Class := { plain "java/util/List" (some 0) with
  accessFlags := 1537
  interfaces := #[13]
  cf := some (fileOf pool14 8 #[] #[{ accessFlags := 1025, nameIndex := 79, descriptorIndex := 80, attributes := #[] }, { accessFlags := 1025, nameIndex := 60, descriptorIndex := 64, attributes := #[] }, { accessFlags := 1025, nameIndex := 75, descriptorIndex := 76, attributes := #[] }] 1537 103 #[120] #[])
  fields := #[]
  methods := #[k14m0, k14m1, k14m2]
  instanceTypes := #[]
  staticTypes := #[]
  resolved := Array.replicate 251 none
  statics := none }

def pool15 : Array CpInfo := pool [(1, .methodref 2 3), (0, .class_ 4), (0, .nameAndType 5 6), (0, u "java/lang/Object"), (0, u "<init>"), (0, u "()V"), (1, .class_ 10), (1, u "java/util/AbstractCollection"), (66, .class_ 78), (0, u "java/util/Collection")] 81

def k15c0 : Code := { maxStack := 1, maxLocals := 1, code := jdk_22_method_1_code, exceptionTable := #[], attributes := #[] }
def k15m0 : Method := { name := "<init>", desc := "()V", sig := { parameters := [], returnType := none }, accessFlags := 4, code := some k15c0 }
/-- java/util/AbstractCollection -/
def k15 : Class := { plain "java/util/AbstractCollection" (some 0) with
  accessFlags := 1057
  interfaces := #[12]
  cf := some (fileOf pool15 8 #[] #[{ accessFlags := 4, nameIndex := 5, descriptorIndex := 6, attributes := #[] }] 1057 2 #[77] #[])
  fields := #[]
  methods := #[k15m0]
  instanceTypes := #[]
  staticTypes := #[]
  resolved := Array.replicate 160 none
  statics := none }

def pool16 : Array CpInfo := pool [(2, .class_ 4), (1, u "java/util/AbstractCollection"), (0, u "<init>"), (0, u "()V"), (1, .class_ 10), (1, u "java/util/ImmutableCollections"), (2, .class_ 14), (0, u "java/util/ImmutableCollections$AbstractImmutableCollection")] 41

def k16m0 : Method := { name := "<init>", desc := "()V", sig := { parameters := [], returnType := none }, accessFlags := 0, code := none }
/-- java/util/ImmutableCollections$AbstractImmutableCollection -/
def k16 : Class := { plain "java/util/ImmutableCollections$AbstractImmutableCollection" (some 15) with
  accessFlags := 1056
  interfaces := #[]
  cf := some (fileOf pool16 13 #[.nestHost 8] #[{ accessFlags := 0, nameIndex := 5, descriptorIndex := 6, attributes := #[] }] 1056 2 #[] #[])
  fields := #[]
  methods := #[k16m0]
  instanceTypes := #[]
  staticTypes := #[]
  resolved := Array.replicate 56 none
  statics := none }

def pool17 : Array CpInfo := pool [(1, .class_ 2), (0, u "java/util/RandomAccess"), (0, .class_ 4), (0, u "java/lang/Object")] 2

/-- java/util/RandomAccess -/
def k17 : Class := { plain "java/util/RandomAccess" (some 0) with
  accessFlags := 1537
  interfaces := #[]
  cf := some (fileOf pool17 1 #[] #[] 1537 3 #[] #[])
  fields := #[]
  methods := #[]
  instanceTypes := #[]
  staticTypes := #[]
  resolved := Array.replicate 7 none
  statics := none }

def pool18 : Array CpInfo := pool [(2, .class_ 4), (1, u "java/util/ImmutableCollections$AbstractImmutableCollection"), (0, u "<init>"), (0, u "()V"), (1, .class_ 10), (1, u "java/util/ImmutableCollections"), (3, .class_ 16), (1, u "java/util/ImmutableCollections$AbstractImmutableList"), (60, .class_ 78), (0, u "java/util/List"), (45, .class_ 125), (0, u "java/util/RandomAccess")] 70

def k18m0 : Method := { name := "<init>", desc := "()V", sig := { parameters := [], returnType := none }, accessFlags := 0, code := none }
/-- java/util/ImmutableCollections$AbstractImmutableList -/
def k18 : Class := { plain "java/util/ImmutableCollections$AbstractImmutableList" (some 16) with
  accessFlags := 1056
  interfaces := #[14, 17]
  cf := some (fileOf pool18 14 #[.nestHost 8] #[{ accessFlags := 0, nameIndex := 5, descriptorIndex := 6, attributes := #[] }] 1056 2 #[77, 124] #[])
  fields := #[]
  methods := #[k18m0]
  instanceTypes := #[]
  staticTypes := #[]
  resolved := Array.replicate 196 none
  statics := none }

def pool19 : Array CpInfo := pool [(2, .class_ 4), (1, u "java/util/ImmutableCollections$AbstractImmutableList"), (2, .fieldref 8 9), (0, .class_ 10), (0, .nameAndType 11 12), (0, u "java/util/ImmutableCollections$ListN"), (0, u "elements"), (0, u "[Ljava/lang/Object;"), (2, u "allowNulls"), (0, u "Z"), (42, .class_ 60), (0, u "java/io/Serializable"), (16, u "size"), (0, u "()I"), (0, u "get"), (0, u "(I)Ljava/lang/Object;"), (33, .class_ 115), (0, u "java/util/ImmutableCollections")] 3

def k19c0 : Code := { maxStack := 1, maxLocals := 1, code := jdk_45_method_3_code, exceptionTable := #[], attributes := #[] }
def k19m0 : Method := { name := "size", desc := "()I", sig := { parameters := [], returnType := some .int }, accessFlags := 1, code := some k19c0 }
def k19c1 : Code := { maxStack := 2, maxLocals := 2, code := jdk_45_method_4_code, exceptionTable := #[], attributes := #[] }
def k19m1 : Method := { name := "get", desc := "(I)Ljava/lang/Object;", sig := { parameters := [.int], returnType := some (.object "java/lang/Object") }, accessFlags := 1, code := some k19c1 }
/-- java/util/ImmutableCollections$ListN -/
def k19 : Class := { plain "java/util/ImmutableCollections$ListN" (some 18) with
  accessFlags := 48
  interfaces := #[2]
  cf := some (fileOf pool19 8 #[.nestHost 114] #[{ accessFlags := 1, nameIndex := 77, descriptorIndex := 78, attributes := #[] }, { accessFlags := 1, nameIndex := 79, descriptorIndex := 80, attributes := #[] }] 48 2 #[59] #[{ accessFlags := 18, nameIndex := 11, descriptorIndex := 12, attributes := #[] }, { accessFlags := 18, nameIndex := 15, descriptorIndex := 16, attributes := #[] }])
  fields := #[{ name := "elements", type := (.array (.object "java/lang/Object")), accessFlags := 18, slot := 0, constantValue := 0 }, { name := "allowNulls", type := .boolean, accessFlags := 18, slot := 1, constantValue := 0 }]
  methods := #[k19m0, k19m1]
  instanceTypes := #[(.array (.object "java/lang/Object")), .boolean]
  staticTypes := #[]
  resolved := Array.replicate 119 none
  statics := none }

def pool20 : Array CpInfo := pool [(1, .methodref 2 3), (0, .class_ 4), (0, .nameAndType 5 6), (0, u "java/util/AbstractCollection"), (0, u "<init>"), (0, u "()V"), (0, .fieldref 8 9), (0, .class_ 10), (0, .nameAndType 11 12), (0, u "java/util/AbstractList"), (0, u "modCount"), (0, u "I"), (64, .class_ 78), (0, u "java/util/AbstractList$Itr"), (3, .class_ 83), (0, u "java/util/AbstractList$ListItr"), (9, .class_ 94), (0, u "java/util/AbstractList$RandomAccessSubList"), (3, .class_ 99), (0, u "java/util/AbstractList$SubList"), (33, .class_ 134), (0, u "java/util/List"), (73, .class_ 209), (0, u "java/util/AbstractList$SubList$1"), (0, .class_ 211), (0, u "java/util/AbstractList$RandomAccessSpliterator")] 6

def k20c0 : Code := { maxStack := 2, maxLocals := 1, code := jdk_39_method_1_code, exceptionTable := #[], attributes := #[] }
def k20m0 : Method := { name := "<init>", desc := "()V", sig := { parameters := [], returnType := none }, accessFlags := 4, code := some k20c0 }
/-- java/util/AbstractList -/
def k20 : Class := { plain "java/util/AbstractList" (some 15) with
  accessFlags := 1057
  interfaces := #[14]
  cf := some (fileOf pool20 8 #[.nestMembers #[93, 98, 208, 210, 82, 77]] #[{ accessFlags := 4, nameIndex := 5, descriptorIndex := 6, attributes := #[] }] 1057 2 #[133] #[{ accessFlags := 132, nameIndex := 11, descriptorIndex := 12, attributes := #[] }])
  fields := #[{ name := "modCount", type := .int, accessFlags := 132, slot := 0, constantValue := 0 }]
  methods := #[k20m0]
  instanceTypes := #[.int]
  staticTypes := #[]
  resolved := Array.replicate 218 none
  statics := none }

def pool21 : Array CpInfo := pool [(1, .class_ 2), (0, u "java/lang/Cloneable"), (0, .class_ 4), (0, u "java/lang/Object")] 2

/-- java/lang/Cloneable -/
def k21 : Class := { plain "java/lang/Cloneable" (some 0) with
  accessFlags := 1537
  interfaces := #[]
  cf := some (fileOf pool21 1 #[] #[] 1537 3 #[] #[])
  fields := #[]
  methods := #[]
  instanceTypes := #[]
  staticTypes := #[]
  resolved := Array.replicate 7 none
  statics := none }

def pool22 : Array CpInfo := pool [(1, .methodref 2 3), (0, .class_ 4), (0, .nameAndType 5 6), (0, u "java/util/AbstractList"), (0, u "<init>"), (0, u "()V"), (0, .class_ 8), (0, u "java/lang/Object"), (0, .fieldref 10 11), (0, .class_ 12), (0, .nameAndType 13 14), (0, u "java/util/ArrayList"), (0, u "elementData"), (0, u "[Ljava/lang/Object;"), (2, u "EMPTY_ELEMENTDATA"), (21, .fieldref 10 40), (0, .nameAndType 41 14), (0, u "DEFAULTCAPACITY_EMPTY_ELEMENTDATA"), (5, u "()[Ljava/lang/Object;"), (0, .fieldref 10 49), (0, .nameAndType 50 51), (0, u "size"), (0, u "I"), (11, .fieldref 10 64), (0, .nameAndType 65 51), (0, u "modCount"), (3, .methodref 10 70), (0, .nameAndType 71 72), (0, u "grow"), (0, u "(I)[Ljava/lang/Object;"), (6, .methodref 80 81), (0, .class_ 82), (0, .nameAndType 83 84), (0, u "java/lang/Math"), (0, u "max"), (0, u "(II)I"), (11, u "(Ljava/lang/Object;)Z"), (32, .methodref 10 130), (0, .nameAndType 71 47), (0, .methodref 10 132), (0, .nameAndType 133 134), (0, u "add"), (0, u "(Ljava/lang/Object;[Ljava/lang/Object;I)V"), (13, .class_ 149), (0, u "java/util/List"), (112, .class_ 263), (0, u "java/util/ArrayList$ListItr"), (3, .class_ 268), (0, u "java/util/ArrayList$Itr"), (7, .class_ 277), (0, u "java/util/ArrayList$SubList"), (12, .class_ 291), (0, u "java/util/ArrayList$ArrayListSpliterator"), (37, .class_ 330), (0, u "java/util/RandomAccess"), (0, .class_ 332), (0, u "java/lang/Cloneable"), (0, .class_ 334), (0, u "java/io/Serializable"), (0, u "serialVersionUID"), (0, u "J"), (3, u "DEFAULT_CAPACITY"), (159, .class_ 501), (0, u "java/util/ArrayList$SubList$2"), (0, .class_ 503), (0, u "java/util/ArrayList$SubList$1")] 5

def k22c0 : Code := { maxStack := 2, maxLocals := 1, code := jdk_38_method_2_code, exceptionTable := #[], attributes := #[] }
def k22m0 : Method := { name := "<init>", desc := "()V", sig := { parameters := [], returnType := none }, accessFlags := 1, code := some k22c0 }
def k22c1 : Code := { maxStack := 4, maxLocals := 4, code := jdk_38_method_6_code, exceptionTable := #[], attributes := #[] }
def k22m1 : Method := { name := "grow", desc := "(I)[Ljava/lang/Object;", sig := { parameters := [.int], returnType := some (.array (.object "java/lang/Object")) }, accessFlags := 2, code := some k22c1 }
def k22c2 : Code := { maxStack := 3, maxLocals := 1, code := jdk_38_method_7_code, exceptionTable := #[], attributes := #[] }
def k22m2 : Method := { name := "grow", desc := "()[Ljava/lang/Object;", sig := { parameters := [], returnType := some (.array (.object "java/lang/Object")) }, accessFlags := 2, code := some k22c2 }
def k22c3 : Code := { maxStack := 3, maxLocals := 4, code := jdk_38_method_24_code, exceptionTable := #[], attributes := #[] }
def k22m3 : Method := { name := "add", desc := "(Ljava/lang/Object;[Ljava/lang/Object;I)V", sig := { parameters := [(.object "java/lang/Object"), (.array (.object "java/lang/Object")), .int], returnType := none }, accessFlags := 2, code := some k22c3 }
def k22c4 : Code := { maxStack := 4, maxLocals := 2, code := jdk_38_method_25_code, exceptionTable := #[], attributes := #[] }
def k22m4 : Method := { name := "add", desc := "(Ljava/lang/Object;)Z", sig := { parameters := [(.object "java/lang/Object")], returnType := some .boolean }, accessFlags := 1, code := some k22c4 }
/-- java/util/ArrayList -/
def k22 : Class := { plain "java/util/ArrayList" (some 20) with
  accessFlags := 33
  interfaces := #[14, 17, 21, 2]
  cf := some (fileOf pool22 10 #[.nestMembers #[290, 276, 500, 502, 262, 267]] #[{ accessFlags := 1, nameIndex := 5, descriptorIndex := 6, attributes := #[] }, { accessFlags := 2, nameIndex := 71, descriptorIndex := 72, attributes := #[] }, { accessFlags := 2, nameIndex := 71, descriptorIndex := 47, attributes := #[] }, { accessFlags := 2, nameIndex := 133, descriptorIndex := 134, attributes := #[] }, { accessFlags := 1, nameIndex := 133, descriptorIndex := 96, attributes := #[] }] 33 2 #[148, 329, 331, 333] #[{ accessFlags := 26, nameIndex := 335, descriptorIndex := 336, attributes := #[] }, { accessFlags := 26, nameIndex := 340, descriptorIndex := 51, attributes := #[] }, { accessFlags := 26, nameIndex := 17, descriptorIndex := 14, attributes := #[] }, { accessFlags := 26, nameIndex := 41, descriptorIndex := 14, attributes := #[] }, { accessFlags := 128, nameIndex := 13, descriptorIndex := 14, attributes := #[] }, { accessFlags := 2, nameIndex := 50, descriptorIndex := 51, attributes := #[] }])
  fields := #[{ name := "serialVersionUID", type := .long, accessFlags := 26, slot := 0, constantValue := 0 }, { name := "DEFAULT_CAPACITY", type := .int, accessFlags := 26, slot := 1, constantValue := 0 }, { name := "EMPTY_ELEMENTDATA", type := (.array (.object "java/lang/Object")), accessFlags := 26, slot := 2, constantValue := 0 }, { name := "DEFAULTCAPACITY_EMPTY_ELEMENTDATA", type := (.array (.object "java/lang/Object")), accessFlags := 26, slot := 3, constantValue := 0 }, { name := "elementData", type := (.array (.object "java/lang/Object")), accessFlags := 128, slot := 1, constantValue := 0 }, { name := "size", type := .int, accessFlags := 2, slot := 2, constantValue := 0 }]
  methods := #[k22m0, k22m1, k22m2, k22m3, k22m4]
  instanceTypes := #[.int, (.array (.object "java/lang/Object")), .int]
  staticTypes := #[.long, .int, (.array (.object "java/lang/Object")), (.array (.object "java/lang/Object"))]
  resolved := Array.replicate 509 none
  statics := some 2 }

def pool23 : Array CpInfo := pool [(1, .methodref 2 3), (0, .class_ 4), (0, .nameAndType 5 6), (0, u "java/lang/Object"), (0, u "<init>"), (0, u "()V"), (0, .class_ 8), (0, u "java/lang/Record")] 13

def k23c0 : Code := { maxStack := 1, maxLocals := 1, code := jdk_30_method_1_code, exceptionTable := #[], attributes := #[] }
def k23m0 : Method := { name := "<init>", desc := "()V", sig := { parameters := [], returnType := none }, accessFlags := 4, code := some k23c0 }
/-- java/lang/Record -/
def k23 : Class := { plain "java/lang/Record" (some 0) with
  accessFlags := 1057
  interfaces := #[]
  cf := some (fileOf pool23 7 #[] #[{ accessFlags := 4, nameIndex := 5, descriptorIndex := 6, attributes := #[] }] 1057 2 #[] #[])
  fields := #[]
  methods := #[k23m0]
  instanceTypes := #[]
  staticTypes := #[]
  resolved := Array.replicate 22 none
  statics := none }

def pool24 : Array CpInfo := pool [(2, .class_ 4), (1, u "java/lang/Record"), (3, u "name"), (10, .class_ 20), (0, u "shadowsift/core/Field"), (13, u "Ljava/lang/String;"), (0, .fieldref 19 36), (0, .nameAndType 37 38), (0, u "low"), (0, u "J"), (0, .fieldref 19 40), (0, .nameAndType 41 38), (0, u "high"), (2, u "dotted"), (0, u "Z"), (4, .class_ 52), (1, u "shadowsift/core/ValueSet"), (5, .methodref 50 59), (0, .nameAndType 60 61), (0, u "range"), (0, u "(JJ)Lshadowsift/core/ValueSet;"), (19, u "MAX_VALUE"), (10, u "domain"), (0, u "()Lshadowsift/core/ValueSet;")] 36

def k24c0 : Code := { maxStack := 4, maxLocals := 1, code := prog_42_method_4_code, exceptionTable := #[], attributes := #[] }
def k24m0 : Method := { name := "domain", desc := "()Lshadowsift/core/ValueSet;", sig := { parameters := [], returnType := some (.object "shadowsift/core/ValueSet") }, accessFlags := 1, code := some k24c0 }
/-- shadowsift/core/Field -/
def k24 : Class := { plain "shadowsift/core/Field" (some 23) with
  accessFlags := 49
  interfaces := #[]
  cf := some (fileOf pool24 19 #[] #[{ accessFlags := 1, nameIndex := 92, descriptorIndex := 93, attributes := #[] }] 49 2 #[] #[{ accessFlags := 18, nameIndex := 8, descriptorIndex := 34, attributes := #[] }, { accessFlags := 18, nameIndex := 37, descriptorIndex := 38, attributes := #[] }, { accessFlags := 18, nameIndex := 41, descriptorIndex := 38, attributes := #[] }, { accessFlags := 18, nameIndex := 44, descriptorIndex := 45, attributes := #[] }, { accessFlags := 25, nameIndex := 81, descriptorIndex := 38, attributes := #[] }])
  fields := #[{ name := "name", type := (.object "java/lang/String"), accessFlags := 18, slot := 0, constantValue := 0 }, { name := "low", type := .long, accessFlags := 18, slot := 1, constantValue := 0 }, { name := "high", type := .long, accessFlags := 18, slot := 2, constantValue := 0 }, { name := "dotted", type := .boolean, accessFlags := 18, slot := 3, constantValue := 0 }, { name := "MAX_VALUE", type := .long, accessFlags := 25, slot := 0, constantValue := 0 }]
  methods := #[k24m0]
  instanceTypes := #[(.object "java/lang/String"), .long, .long, .boolean]
  staticTypes := #[.long]
  resolved := Array.replicate 130 none
  statics := none }

def pool25 : Array CpInfo := pool [(1, .methodref 2 3), (0, .class_ 4), (0, .nameAndType 5 6), (0, u "java/lang/Object"), (0, u "<init>"), (0, u "()V"), (0, .fieldref 8 9), (0, .class_ 10), (0, .nameAndType 11 12), (0, u "shadowsift/core/ValueSet$Builder"), (0, u "lows"), (0, u "[J"), (0, .fieldref 8 14), (0, .nameAndType 15 12), (0, u "highs"), (0, .fieldref 8 17), (0, .nameAndType 18 19), (0, u "count"), (0, u "I"), (0, .methodref 21 22), (0, .class_ 23), (0, .nameAndType 24 25), (0, u "java/util/Optional"), (0, u "empty"), (0, u "()Ljava/util/Optional;"), (0, .class_ 27), (0, u "shadowsift/core/ValueSet"), (0, .methodref 29 30), (0, .class_ 31), (0, .nameAndType 32 33), (0, u "java/util/Arrays"), (0, u "copyOf"), (0, u "([JI)[J"), (0, .methodref 26 35), (0, .nameAndType 5 36), (0, u "([J[J)V"), (0, .methodref 21 38), (0, .nameAndType 39 40), (0, u "of"), (0, u "(Ljava/lang/Object;)Ljava/util/Optional;"), (0, u "(I)V"), (2, u "add"), (0, u "(JJ)V"), (1, u "set")] 7

def k25c0 : Code := { maxStack := 2, maxLocals := 2, code := prog_64_method_1_code, exceptionTable := #[], attributes := #[] }
def k25m0 : Method := { name := "<init>", desc := "(I)V", sig := { parameters := [.int], returnType := none }, accessFlags := 0, code := some k25c0 }
def k25c1 : Code := { maxStack := 4, maxLocals := 5, code := prog_64_method_2_code, exceptionTable := #[], attributes := #[] }
def k25m1 : Method := { name := "add", desc := "(JJ)V", sig := { parameters := [.long, .long], returnType := none }, accessFlags := 0, code := some k25c1 }
def k25c2 : Code := { maxStack := 5, maxLocals := 1, code := prog_64_method_3_code, exceptionTable := #[], attributes := #[] }
def k25m2 : Method := { name := "set", desc := "()Ljava/util/Optional;", sig := { parameters := [], returnType := some (.object "java/util/Optional") }, accessFlags := 0, code := some k25c2 }
/-- shadowsift/core/ValueSet$Builder -/
def k25 : Class := { plain "shadowsift/core/ValueSet$Builder" (some 0) with
  accessFlags := 48
  interfaces := #[]
  cf := some (fileOf pool25 8 #[.nestHost 26] #[{ accessFlags := 0, nameIndex := 5, descriptorIndex := 41, attributes := #[] }, { accessFlags := 0, nameIndex := 44, descriptorIndex := 45, attributes := #[] }, { accessFlags := 0, nameIndex := 47, descriptorIndex := 25, attributes := #[] }] 48 2 #[] #[{ accessFlags := 18, nameIndex := 11, descriptorIndex := 12, attributes := #[] }, { accessFlags := 18, nameIndex := 15, descriptorIndex := 12, attributes := #[] }, { accessFlags := 2, nameIndex := 18, descriptorIndex := 19, attributes := #[] }])
  fields := #[{ name := "lows", type := (.array .long), accessFlags := 18, slot := 0, constantValue := 0 }, { name := "highs", type := (.array .long), accessFlags := 18, slot := 1, constantValue := 0 }, { name := "count", type := .int, accessFlags := 2, slot := 2, constantValue := 0 }]
  methods := #[k25m0, k25m1, k25m2]
  instanceTypes := #[(.array .long), (.array .long), .int]
  staticTypes := #[]
  resolved := Array.replicate 55 none
  statics := none }

def pool26 : Array CpInfo := pool [(2, .class_ 4), (1, u "java/lang/Object"), (0, u "<init>"), (0, u "()V"), (7, .class_ 16), (1, u "java/util/Arrays"), (57, .class_ 76), (1, u "java/util/Arrays$NaturalOrder"), (32, u "()Ljava/lang/Object;"), (3, .class_ 115), (1, u "java/util/Arrays$LegacyMergeSort"), (1, u "Z"), (10, .nameAndType 129 109), (0, u "clone"), (20, .methodref 151 152), (0, .class_ 153), (0, .nameAndType 154 155), (0, u "java/lang/System"), (0, u "arraycopy"), (0, u "(Ljava/lang/Object;ILjava/lang/Object;II)V"), (146, u "copyOf"), (1, .methodref 305 306), (0, .class_ 307), (0, .nameAndType 308 309), (0, u "java/lang/Math"), (0, u "min"), (0, u "(II)I"), (9, .methodref 320 128), (0, .class_ 321), (0, u "[J"), (53, .class_ 376), (0, u "java/util/Arrays$ArrayList"), (68, u "$assertionsDisabled"), (269, u "MIN_ARRAY_SORT_GRAN"), (0, u "I"), (2, u "INSERTIONSORT_THRESHOLD"), (152, u "([JI)[J"), (102, .class_ 976), (0, u "java/util/Arrays$ArrayItr")] 52

def k26m0 : Method := { name := "<init>", desc := "()V", sig := { parameters := [], returnType := none }, accessFlags := 2, code := none }
def k26c1 : Code := { maxStack := 6, maxLocals := 3, code := jdk_65_method_124_code, exceptionTable := #[], attributes := #[] }
def k26m1 : Method := { name := "copyOf", desc := "([JI)[J", sig := { parameters := [(.array .long), .int], returnType := some (.array .long) }, accessFlags := 9, code := some k26c1 }
/-- java/util/Arrays -/
def k26 : Class := { plain "java/util/Arrays" (some 0) with
  accessFlags := 49
  interfaces := #[]
  cf := some (fileOf pool26 14 #[.nestMembers #[975, 375, 113, 74]] #[{ accessFlags := 2, nameIndex := 5, descriptorIndex := 6, attributes := #[] }, { accessFlags := 9, nameIndex := 302, descriptorIndex := 872, attributes := #[] }] 49 2 #[] #[{ accessFlags := 26, nameIndex := 715, descriptorIndex := 716, attributes := #[] }, { accessFlags := 26, nameIndex := 719, descriptorIndex := 716, attributes := #[] }, { accessFlags := 4120, nameIndex := 445, descriptorIndex := 117, attributes := #[] }])
  fields := #[{ name := "MIN_ARRAY_SORT_GRAN", type := .int, accessFlags := 26, slot := 0, constantValue := 0 }, { name := "INSERTIONSORT_THRESHOLD", type := .int, accessFlags := 26, slot := 1, constantValue := 0 }, { name := "$assertionsDisabled", type := .boolean, accessFlags := 4120, slot := 2, constantValue := 0 }]
  methods := #[k26m0, k26m1]
  instanceTypes := #[]
  staticTypes := #[.int, .int, .boolean]
  resolved := Array.replicate 1029 none
  statics := none }

def pool27 : Array CpInfo := pool [(1, .class_ 2), (0, u "java/lang/Math"), (1, .class_ 6), (1, u "java/lang/Object"), (0, u "<init>"), (0, u "()V"), (89, .class_ 100), (1, u "java/lang/Math$RandomNumberGeneratorHolder"), (20, u "(JJ)J"), (50, u "negativeZeroFloatBits"), (0, u "J"), (2, u "negativeZeroDoubleBits"), (21, u "max"), (2, u "min"), (43, u "$assertionsDisabled"), (0, u "Z"), (88, u "(II)I"), (2, u "twoToTheDoubleScaleDown"), (0, u "D"), (4, u "twoToTheDoubleScaleUp"), (9, u "E"), (3, u "PI"), (2, u "TAU"), (2, u "DEGREES_TO_RADIANS"), (0, u "RADIANS_TO_DEGREES")] 94

def k27m0 : Method := { name := "<init>", desc := "()V", sig := { parameters := [], returnType := none }, accessFlags := 2, code := none }
def k27c1 : Code := { maxStack := 2, maxLocals := 2, code := jdk_29_method_65_code, exceptionTable := #[], attributes := #[] }
def k27m1 : Method := { name := "max", desc := "(II)I", sig := { parameters := [.int, .int], returnType := some .int }, accessFlags := 9, code := some k27c1 }
def k27c2 : Code := { maxStack := 4, maxLocals := 4, code := jdk_29_method_66_code, exceptionTable := #[], attributes := #[] }
def k27m2 : Method := { name := "max", desc := "(JJ)J", sig := { parameters := [.long, .long], returnType := some .long }, accessFlags := 9, code := some k27c2 }
def k27c3 : Code := { maxStack := 2, maxLocals := 2, code := jdk_29_method_69_code, exceptionTable := #[], attributes := #[] }
def k27m3 : Method := { name := "min", desc := "(II)I", sig := { parameters := [.int, .int], returnType := some .int }, accessFlags := 9, code := some k27c3 }
def k27c4 : Code := { maxStack := 4, maxLocals := 4, code := jdk_29_method_70_code, exceptionTable := #[], attributes := #[] }
def k27m4 : Method := { name := "min", desc := "(JJ)J", sig := { parameters := [.long, .long], returnType := some .long }, accessFlags := 9, code := some k27c4 }
/-- java/lang/Math -/
def k27 : Class := { plain "java/lang/Math" (some 0) with
  accessFlags := 49
  interfaces := #[]
  cf := some (fileOf pool27 1 #[.nestMembers #[98]] #[{ accessFlags := 2, nameIndex := 7, descriptorIndex := 8, attributes := #[] }, { accessFlags := 9, nameIndex := 198, descriptorIndex := 335, attributes := #[] }, { accessFlags := 9, nameIndex := 198, descriptorIndex := 121, attributes := #[] }, { accessFlags := 9, nameIndex := 201, descriptorIndex := 335, attributes := #[] }, { accessFlags := 9, nameIndex := 201, descriptorIndex := 121, attributes := #[] }] 49 4 #[] #[{ accessFlags := 25, nameIndex := 354, descriptorIndex := 339, attributes := #[] }, { accessFlags := 25, nameIndex := 358, descriptorIndex := 339, attributes := #[] }, { accessFlags := 25, nameIndex := 361, descriptorIndex := 339, attributes := #[] }, { accessFlags := 26, nameIndex := 364, descriptorIndex := 339, attributes := #[] }, { accessFlags := 26, nameIndex := 365, descriptorIndex := 339, attributes := #[] }, { accessFlags := 26, nameIndex := 172, descriptorIndex := 173, attributes := #[] }, { accessFlags := 26, nameIndex := 176, descriptorIndex := 173, attributes := #[] }, { accessFlags := 8, nameIndex := 344, descriptorIndex := 339, attributes := #[] }, { accessFlags := 8, nameIndex := 338, descriptorIndex := 339, attributes := #[] }, { accessFlags := 4120, nameIndex := 245, descriptorIndex := 246, attributes := #[] }])
  fields := #[{ name := "E", type := .double, accessFlags := 25, slot := 0, constantValue := 0 }, { name := "PI", type := .double, accessFlags := 25, slot := 1, constantValue := 0 }, { name := "TAU", type := .double, accessFlags := 25, slot := 2, constantValue := 0 }, { name := "DEGREES_TO_RADIANS", type := .double, accessFlags := 26, slot := 3, constantValue := 0 }, { name := "RADIANS_TO_DEGREES", type := .double, accessFlags := 26, slot := 4, constantValue := 0 }, { name := "negativeZeroFloatBits", type := .long, accessFlags := 26, slot := 5, constantValue := 0 }, { name := "negativeZeroDoubleBits", type := .long, accessFlags := 26, slot := 6, constantValue := 0 }, { name := "twoToTheDoubleScaleUp", type := .double, accessFlags := 8, slot := 7, constantValue := 0 }, { name := "twoToTheDoubleScaleDown", type := .double, accessFlags := 8, slot := 8, constantValue := 0 }, { name := "$assertionsDisabled", type := .boolean, accessFlags := 4120, slot := 9, constantValue := 0 }]
  methods := #[k27m0, k27m1, k27m2, k27m3, k27m4]
  instanceTypes := #[]
  staticTypes := #[.double, .double, .double, .double, .double, .long, .long, .double, .double, .boolean]
  resolved := Array.replicate 460 none
  statics := none }

def pool28 : Array CpInfo := pool [(2, .class_ 4), (1, u "java/lang/Object"), (0, u "<init>"), (0, u "()V"), (1, .class_ 10), (1, u "java/lang/System"), (0, u "allowSecurityManager"), (0, u "I"), (16, u "cons"), (0, u "Ljava/io/Console;"), (77, .class_ 110), (1, u "java/lang/System$CallersHolder"), (43, u "initialErrStream"), (0, u "Ljava/io/PrintStream;"), (19, u "security"), (0, u "Ljava/lang/SecurityManager;"), (31, .class_ 209), (0, u "java/lang/System$1"), (7, u "props"), (0, u "Ljava/util/Properties;"), (2, u "lineSeparator"), (0, u "Ljava/lang/String;"), (96, .class_ 321), (1, u "java/lang/System$LoggerFinder"), (5, .class_ 328), (0, u "java/lang/System$Logger"), (67, u "err"), (2, u "out"), (91, u "notSupportedJnuEncoding"), (15, u "in"), (17, u "initialIn"), (0, u "Ljava/io/InputStream;"), (35, u "bootLayer"), (0, u "Ljava/lang/ModuleLayer;"), (99, .class_ 664), (0, u "java/lang/System$2"), (9, u "NEVER"), (2, u "MAYBE"), (49, u "arraycopy"), (0, u "(Ljava/lang/Object;ILjava/lang/Object;II)V"), (72, .class_ 802), (0, u "java/lang/System$Logger$Level")] 31

def k28m0 : Method := { name := "<init>", desc := "()V", sig := { parameters := [], returnType := none }, accessFlags := 2, code := none }
def k28m1 : Method := { name := "arraycopy", desc := "(Ljava/lang/Object;ILjava/lang/Object;II)V", sig := { parameters := [(.object "java/lang/Object"), .int, (.object "java/lang/Object"), .int, .int], returnType := none }, accessFlags := 265, code := none }
/-- java/lang/System -/
def k28 : Class := { plain "java/lang/System" (some 0) with
  accessFlags := 49
  interfaces := #[]
  cf := some (fileOf pool28 8 #[.nestMembers #[319, 327, 801, 108, 663, 208]] #[{ accessFlags := 2, nameIndex := 5, descriptorIndex := 6, attributes := #[] }, { accessFlags := 265, nameIndex := 727, descriptorIndex := 728, attributes := #[] }] 49 2 #[] #[{ accessFlags := 25, nameIndex := 507, descriptorIndex := 526, attributes := #[] }, { accessFlags := 25, nameIndex := 399, descriptorIndex := 155, attributes := #[] }, { accessFlags := 25, nameIndex := 396, descriptorIndex := 155, attributes := #[] }, { accessFlags := 10, nameIndex := 525, descriptorIndex := 526, attributes := #[] }, { accessFlags := 26, nameIndex := 674, descriptorIndex := 12, attributes := #[] }, { accessFlags := 26, nameIndex := 677, descriptorIndex := 12, attributes := #[] }, { accessFlags := 10, nameIndex := 11, descriptorIndex := 12, attributes := #[] }, { accessFlags := 74, nameIndex := 175, descriptorIndex := 176, attributes := #[] }, { accessFlags := 10, nameIndex := 491, descriptorIndex := 222, attributes := #[] }, { accessFlags := 74, nameIndex := 29, descriptorIndex := 30, attributes := #[] }, { accessFlags := 74, nameIndex := 154, descriptorIndex := 155, attributes := #[] }, { accessFlags := 10, nameIndex := 217, descriptorIndex := 218, attributes := #[] }, { accessFlags := 10, nameIndex := 221, descriptorIndex := 222, attributes := #[] }, { accessFlags := 8, nameIndex := 562, descriptorIndex := 563, attributes := #[] }])
  fields := #[{ name := "in", type := (.object "java/io/InputStream"), accessFlags := 25, slot := 0, constantValue := 0 }, { name := "out", type := (.object "java/io/PrintStream"), accessFlags := 25, slot := 1, constantValue := 0 }, { name := "err", type := (.object "java/io/PrintStream"), accessFlags := 25, slot := 2, constantValue := 0 }, { name := "initialIn", type := (.object "java/io/InputStream"), accessFlags := 10, slot := 3, constantValue := 0 }, { name := "NEVER", type := .int, accessFlags := 26, slot := 4, constantValue := 0 }, { name := "MAYBE", type := .int, accessFlags := 26, slot := 5, constantValue := 0 }, { name := "allowSecurityManager", type := .int, accessFlags := 10, slot := 6, constantValue := 0 }, { name := "security", type := (.object "java/lang/SecurityManager"), accessFlags := 74, slot := 7, constantValue := 0 }, { name := "notSupportedJnuEncoding", type := (.object "java/lang/String"), accessFlags := 10, slot := 8, constantValue := 0 }, { name := "cons", type := (.object "java/io/Console"), accessFlags := 74, slot := 9, constantValue := 0 }, { name := "initialErrStream", type := (.object "java/io/PrintStream"), accessFlags := 74, slot := 10, constantValue := 0 }, { name := "props", type := (.object "java/util/Properties"), accessFlags := 10, slot := 11, constantValue := 0 }, { name := "lineSeparator", type := (.object "java/lang/String"), accessFlags := 10, slot := 12, constantValue := 0 }, { name := "bootLayer", type := (.object "java/lang/ModuleLayer"), accessFlags := 8, slot := 13, constantValue := 0 }]
  methods := #[k28m0, k28m1]
  instanceTypes := #[]
  staticTypes := #[(.object "java/io/InputStream"), (.object "java/io/PrintStream"), (.object "java/io/PrintStream"), (.object "java/io/InputStream"), .int, .int, .int, (.object "java/lang/SecurityManager"), (.object "java/lang/String"), (.object "java/io/Console"), (.object "java/io/PrintStream"), (.object "java/util/Properties"), (.object "java/lang/String"), (.object "java/lang/ModuleLayer")]
  resolved := Array.replicate 834 none
  statics := none }

def pool29 : Array CpInfo := pool [(1, .fieldref 2 3), (0, .class_ 4), (0, .nameAndType 5 6), (0, u "java/util/Optional"), (0, u "EMPTY"), (0, u "Ljava/util/Optional;"), (0, .methodref 8 9), (0, .class_ 10), (0, .nameAndType 11 12), (0, u "java/lang/Object"), (0, u "<init>"), (0, u "()V"), (0, .fieldref 2 14), (0, .nameAndType 15 16), (0, u "value"), (0, u "Ljava/lang/Object;"), (0, .methodref 18 19), (0, .class_ 20), (0, .nameAndType 21 22), (0, u "java/util/Objects"), (0, u "requireNonNull"), (0, u "(Ljava/lang/Object;)Ljava/lang/Object;"), (0, .methodref 2 24), (0, .nameAndType 11 25), (0, u "(Ljava/lang/Object;)V"), (7, .interfaceMethodref 34 35), (0, .class_ 36), (0, .nameAndType 37 25), (0, u "java/util/function/Consumer"), (0, u "accept"), (7, u "isEmpty"), (0, u "()Z"), (8, u "empty"), (0, u "()Ljava/util/Optional;"), (8, u "(Ljava/lang/Object;)Ljava/util/Optional;"), (16, u "of"), (46, u "ifPresent"), (0, u "(Ljava/util/function/Consumer;)V")] 56

def k29c0 : Code := { maxStack := 1, maxLocals := 1, code := jdk_32_method_1_code, exceptionTable := #[], attributes := #[] }
def k29m0 : Method := { name := "empty", desc := "()Ljava/util/Optional;", sig := { parameters := [], returnType := some (.object "java/util/Optional") }, accessFlags := 9, code := some k29c0 }
def k29c1 : Code := { maxStack := 2, maxLocals := 2, code := jdk_32_method_2_code, exceptionTable := #[], attributes := #[] }
def k29m1 : Method := { name := "<init>", desc := "(Ljava/lang/Object;)V", sig := { parameters := [(.object "java/lang/Object")], returnType := none }, accessFlags := 2, code := some k29c1 }
def k29c2 : Code := { maxStack := 3, maxLocals := 1, code := jdk_32_method_3_code, exceptionTable := #[], attributes := #[] }
def k29m2 : Method := { name := "of", desc := "(Ljava/lang/Object;)Ljava/util/Optional;", sig := { parameters := [(.object "java/lang/Object")], returnType := some (.object "java/util/Optional") }, accessFlags := 9, code := some k29c2 }
def k29c3 : Code := { maxStack := 1, maxLocals := 1, code := jdk_32_method_7_code, exceptionTable := #[], attributes := #[] }
def k29m3 : Method := { name := "isEmpty", desc := "()Z", sig := { parameters := [], returnType := some .boolean }, accessFlags := 1, code := some k29c3 }
def k29c4 : Code := { maxStack := 2, maxLocals := 2, code := jdk_32_method_8_code, exceptionTable := #[], attributes := #[] }
def k29m4 : Method := { name := "ifPresent", desc := "(Ljava/util/function/Consumer;)V", sig := { parameters := [(.object "java/util/function/Consumer")], returnType := none }, accessFlags := 1, code := some k29c4 }
/-- java/util/Optional -/
def k29 : Class := { plain "java/util/Optional" (some 0) with
  accessFlags := 49
  interfaces := #[]
  cf := some (fileOf pool29 2 #[] #[{ accessFlags := 9, nameIndex := 55, descriptorIndex := 56, attributes := #[] }, { accessFlags := 2, nameIndex := 11, descriptorIndex := 25, attributes := #[] }, { accessFlags := 9, nameIndex := 82, descriptorIndex := 65, attributes := #[] }, { accessFlags := 1, nameIndex := 45, descriptorIndex := 46, attributes := #[] }, { accessFlags := 1, nameIndex := 129, descriptorIndex := 130, attributes := #[] }] 49 8 #[] #[{ accessFlags := 26, nameIndex := 5, descriptorIndex := 6, attributes := #[] }, { accessFlags := 18, nameIndex := 15, descriptorIndex := 16, attributes := #[] }])
  fields := #[{ name := "EMPTY", type := (.object "java/util/Optional"), accessFlags := 26, slot := 0, constantValue := 0 }, { name := "value", type := (.object "java/lang/Object"), accessFlags := 18, slot := 0, constantValue := 0 }]
  methods := #[k29m0, k29m1, k29m2, k29m3, k29m4]
  instanceTypes := #[(.object "java/lang/Object")]
  staticTypes := #[(.object "java/util/Optional")]
  resolved := Array.replicate 187 none
  statics := some 3 }

def pool30 : Array CpInfo := pool [(2, .class_ 4), (1, u "java/lang/Object"), (0, u "<init>"), (0, u "()V"), (35, .class_ 44), (1, u "java/util/Objects"), (0, u "requireNonNull"), (0, u "(Ljava/lang/Object;)Ljava/lang/Object;")] 137

def k30m0 : Method := { name := "<init>", desc := "()V", sig := { parameters := [], returnType := none }, accessFlags := 2, code := none }
def k30c1 : Code := { maxStack := 2, maxLocals := 1, code := jdk_31_method_10_code, exceptionTable := #[], attributes := #[] }
def k30m1 : Method := { name := "requireNonNull", desc := "(Ljava/lang/Object;)Ljava/lang/Object;", sig := { parameters := [(.object "java/lang/Object")], returnType := some (.object "java/lang/Object") }, accessFlags := 9, code := some k30c1 }
/-- java/util/Objects -/
def k30 : Class := { plain "java/util/Objects" (some 0) with
  accessFlags := 49
  interfaces := #[]
  cf := some (fileOf pool30 42 #[] #[{ accessFlags := 2, nameIndex := 5, descriptorIndex := 6, attributes := #[] }, { accessFlags := 9, nameIndex := 45, descriptorIndex := 46, attributes := #[] }] 49 2 #[] #[])
  fields := #[]
  methods := #[k30m0, k30m1]
  instanceTypes := #[]
  staticTypes := #[]
  resolved := Array.replicate 184 none
  statics := none }

def pool31 : Array CpInfo := pool [(9, u "accept"), (2, .class_ 14), (1, u "java/util/function/Consumer"), (0, u "(Ljava/lang/Object;)V"), (0, .class_ 17), (0, u "java/lang/Object")] 41

def k31m0 : Method := { name := "accept", desc := "(Ljava/lang/Object;)V", sig := { parameters := [(.object "java/lang/Object")], returnType := none }, accessFlags := 1025, code := none }
/-- java/util/function/Consumer -/
def k31 : Class := { plain "java/util/function/Consumer" (some 0) with
  accessFlags := 1537
  interfaces := #[]
  cf := some (fileOf pool31 12 #[] #[{ accessFlags := 1025, nameIndex := 9, descriptorIndex := 15, attributes := #[] }] 1537 16 #[] #[])
  fields := #[]
  methods := #[k31m0]
  instanceTypes := #[]
  staticTypes := #[]
  resolved := Array.replicate 59 none
  statics := none }

def pool32 : Array CpInfo := pool [(1, .methodref 2 3), (0, .class_ 4), (0, .nameAndType 5 6), (0, u "java/lang/Record"), (0, u "<init>"), (0, u "()V"), (0, .fieldref 8 9), (0, .class_ 10), (0, .nameAndType 11 12), (0, u "shadowsift/iptables/Condition$InterfaceTest"), (0, u "field"), (0, u "I"), (0, .fieldref 8 14), (0, .nameAndType 15 16), (0, u "pattern"), (0, u "Ljava/lang/String;"), (0, .fieldref 8 18), (0, .nameAndType 19 20), (0, u "negated"), (0, u "Z"), (12, u "(ILjava/lang/String;Z)V"), (10, .class_ 45), (0, u "shadowsift/iptables/Condition")] 21

def k32c0 : Code := { maxStack := 2, maxLocals := 4, code := prog_67_method_1_code, exceptionTable := #[], attributes := #[] }
def k32m0 : Method := { name := "<init>", desc := "(ILjava/lang/String;Z)V", sig := { parameters := [.int, (.object "java/lang/String"), .boolean], returnType := none }, accessFlags := 2, code := some k32c0 }
/-- shadowsift/iptables/Condition$InterfaceTest -/
def k32 : Class := { plain "shadowsift/iptables/Condition$InterfaceTest" (some 23) with
  accessFlags := 48
  interfaces := #[]
  cf := some (fileOf pool32 8 #[.nestHost 44] #[{ accessFlags := 2, nameIndex := 5, descriptorIndex := 33, attributes := #[] }] 48 2 #[] #[{ accessFlags := 18, nameIndex := 11, descriptorIndex := 12, attributes := #[] }, { accessFlags := 18, nameIndex := 15, descriptorIndex := 16, attributes := #[] }, { accessFlags := 18, nameIndex := 19, descriptorIndex := 20, attributes := #[] }])
  fields := #[{ name := "field", type := .int, accessFlags := 18, slot := 0, constantValue := 0 }, { name := "pattern", type := (.object "java/lang/String"), accessFlags := 18, slot := 1, constantValue := 0 }, { name := "negated", type := .boolean, accessFlags := 18, slot := 2, constantValue := 0 }]
  methods := #[k32m0]
  instanceTypes := #[.int, (.object "java/lang/String"), .boolean]
  staticTypes := #[]
  resolved := Array.replicate 67 none
  statics := none }

def pool33 : Array CpInfo := pool [(2, .class_ 4), (1, u "java/lang/Object"), (0, u "<init>"), (0, u "()V"), (17, .class_ 26), (1, u "jdk/internal/util/Preconditions"), (28, .class_ 56), (0, u "jdk/internal/util/Preconditions$4"), (57, .class_ 115), (0, u "jdk/internal/util/Preconditions$1"), (7, u "SIOOBE_FORMATTER"), (0, u "Ljava/util/function/BiFunction;"), (0, .class_ 126), (0, u "jdk/internal/util/Preconditions$2"), (3, u "AIOOBE_FORMATTER"), (0, .class_ 132), (0, u "jdk/internal/util/Preconditions$3"), (3, u "IOOBE_FORMATTER")] 57

def k33m0 : Method := { name := "<init>", desc := "()V", sig := { parameters := [], returnType := none }, accessFlags := 1, code := none }
/-- jdk/internal/util/Preconditions -/
def k33 : Class := { plain "jdk/internal/util/Preconditions" (some 0) with
  accessFlags := 33
  interfaces := #[]
  cf := some (fileOf pool33 24 #[.nestMembers #[55, 131, 125, 114]] #[{ accessFlags := 1, nameIndex := 5, descriptorIndex := 6, attributes := #[] }] 33 2 #[] #[{ accessFlags := 25, nameIndex := 123, descriptorIndex := 124, attributes := #[] }, { accessFlags := 25, nameIndex := 130, descriptorIndex := 124, attributes := #[] }, { accessFlags := 25, nameIndex := 136, descriptorIndex := 124, attributes := #[] }])
  fields := #[{ name := "SIOOBE_FORMATTER", type := (.object "java/util/function/BiFunction"), accessFlags := 25, slot := 0, constantValue := 0 }, { name := "AIOOBE_FORMATTER", type := (.object "java/util/function/BiFunction"), accessFlags := 25, slot := 1, constantValue := 0 }, { name := "IOOBE_FORMATTER", type := (.object "java/util/function/BiFunction"), accessFlags := 25, slot := 2, constantValue := 0 }]
  methods := #[k33m0]
  instanceTypes := #[]
  staticTypes := #[(.object "java/util/function/BiFunction"), (.object "java/util/function/BiFunction"), (.object "java/util/function/BiFunction")]
  resolved := Array.replicate 194 none
  statics := some 4 }

def pool34 : Array CpInfo := pool [(9, u "<init>"), (6, .class_ 18), (1, u "java/lang/Object"), (0, u "()V"), (1, .class_ 23), (1, u "jdk/internal/util/ArraysSupport"), (0, u "LOG2_ARRAY_LONG_INDEX_SCALE"), (0, u "I"), (2, u "U"), (0, u "Ljdk/internal/misc/Unsafe;"), (8, u "BIG_ENDIAN"), (0, u "Z"), (8, u "LOG2_BYTE_BIT_SIZE"), (4, u "LOG2_ARRAY_INT_INDEX_SCALE"), (54, u "JLA"), (0, u "Ljdk/internal/access/JavaLangAccess;"), (11, u "LOG2_ARRAY_BOOLEAN_INDEX_SCALE"), (9, u "LOG2_ARRAY_BYTE_INDEX_SCALE"), (5, u "LOG2_ARRAY_CHAR_INDEX_SCALE"), (5, u "LOG2_ARRAY_SHORT_INDEX_SCALE"), (18, u "LOG2_ARRAY_FLOAT_INDEX_SCALE"), (24, u "LOG2_ARRAY_DOUBLE_INDEX_SCALE"), (89, u "T_BOOLEAN"), (2, u "T_CHAR"), (1, u "T_FLOAT"), (1, u "T_DOUBLE"), (1, u "T_BYTE"), (1, u "T_SHORT"), (1, u "T_INT"), (1, u "T_LONG"), (1, u "SOFT_MAX_ARRAY_LENGTH")] 83

def k34m0 : Method := { name := "<init>", desc := "()V", sig := { parameters := [], returnType := none }, accessFlags := 2, code := none }
/-- jdk/internal/util/ArraysSupport -/
def k34 : Class := { plain "jdk/internal/util/ArraysSupport" (some 0) with
  accessFlags := 33
  interfaces := #[]
  cf := some (fileOf pool34 21 #[] #[{ accessFlags := 2, nameIndex := 9, descriptorIndex := 19, attributes := #[] }] 33 16 #[] #[{ accessFlags := 24, nameIndex := 28, descriptorIndex := 29, attributes := #[] }, { accessFlags := 26, nameIndex := 38, descriptorIndex := 39, attributes := #[] }, { accessFlags := 25, nameIndex := 121, descriptorIndex := 25, attributes := #[] }, { accessFlags := 25, nameIndex := 131, descriptorIndex := 25, attributes := #[] }, { accessFlags := 25, nameIndex := 137, descriptorIndex := 25, attributes := #[] }, { accessFlags := 25, nameIndex := 143, descriptorIndex := 25, attributes := #[] }, { accessFlags := 25, nameIndex := 53, descriptorIndex := 25, attributes := #[] }, { accessFlags := 25, nameIndex := 24, descriptorIndex := 25, attributes := #[] }, { accessFlags := 25, nameIndex := 162, descriptorIndex := 25, attributes := #[] }, { accessFlags := 25, nameIndex := 187, descriptorIndex := 25, attributes := #[] }, { accessFlags := 26, nameIndex := 48, descriptorIndex := 25, attributes := #[] }, { accessFlags := 25, nameIndex := 277, descriptorIndex := 25, attributes := #[] }, { accessFlags := 25, nameIndex := 280, descriptorIndex := 25, attributes := #[] }, { accessFlags := 25, nameIndex := 282, descriptorIndex := 25, attributes := #[] }, { accessFlags := 25, nameIndex := 284, descriptorIndex := 25, attributes := #[] }, { accessFlags := 25, nameIndex := 286, descriptorIndex := 25, attributes := #[] }, { accessFlags := 25, nameIndex := 288, descriptorIndex := 25, attributes := #[] }, { accessFlags := 25, nameIndex := 290, descriptorIndex := 25, attributes := #[] }, { accessFlags := 25, nameIndex := 292, descriptorIndex := 25, attributes := #[] }, { accessFlags := 26, nameIndex := 108, descriptorIndex := 109, attributes := #[] }, { accessFlags := 25, nameIndex := 294, descriptorIndex := 25, attributes := #[] }])
  fields := #[{ name := "U", type := (.object "jdk/internal/misc/Unsafe"), accessFlags := 24, slot := 0, constantValue := 0 }, { name := "BIG_ENDIAN", type := .boolean, accessFlags := 26, slot := 1, constantValue := 0 }, { name := "LOG2_ARRAY_BOOLEAN_INDEX_SCALE", type := .int, accessFlags := 25, slot := 2, constantValue := 0 }, { name := "LOG2_ARRAY_BYTE_INDEX_SCALE", type := .int, accessFlags := 25, slot := 3, constantValue := 0 }, { name := "LOG2_ARRAY_CHAR_INDEX_SCALE", type := .int, accessFlags := 25, slot := 4, constantValue := 0 }, { name := "LOG2_ARRAY_SHORT_INDEX_SCALE", type := .int, accessFlags := 25, slot := 5, constantValue := 0 }, { name := "LOG2_ARRAY_INT_INDEX_SCALE", type := .int, accessFlags := 25, slot := 6, constantValue := 0 }, { name := "LOG2_ARRAY_LONG_INDEX_SCALE", type := .int, accessFlags := 25, slot := 7, constantValue := 0 }, { name := "LOG2_ARRAY_FLOAT_INDEX_SCALE", type := .int, accessFlags := 25, slot := 8, constantValue := 0 }, { name := "LOG2_ARRAY_DOUBLE_INDEX_SCALE", type := .int, accessFlags := 25, slot := 9, constantValue := 0 }, { name := "LOG2_BYTE_BIT_SIZE", type := .int, accessFlags := 26, slot := 10, constantValue := 0 }, { name := "T_BOOLEAN", type := .int, accessFlags := 25, slot := 11, constantValue := 0 }, { name := "T_CHAR", type := .int, accessFlags := 25, slot := 12, constantValue := 0 }, { name := "T_FLOAT", type := .int, accessFlags := 25, slot := 13, constantValue := 0 }, { name := "T_DOUBLE", type := .int, accessFlags := 25, slot := 14, constantValue := 0 }, { name := "T_BYTE", type := .int, accessFlags := 25, slot := 15, constantValue := 0 }, { name := "T_SHORT", type := .int, accessFlags := 25, slot := 16, constantValue := 0 }, { name := "T_INT", type := .int, accessFlags := 25, slot := 17, constantValue := 0 }, { name := "T_LONG", type := .int, accessFlags := 25, slot := 18, constantValue := 0 }, { name := "JLA", type := (.object "jdk/internal/access/JavaLangAccess"), accessFlags := 26, slot := 19, constantValue := 0 }, { name := "SOFT_MAX_ARRAY_LENGTH", type := .int, accessFlags := 25, slot := 20, constantValue := 0 }]
  methods := #[k34m0]
  instanceTypes := #[]
  staticTypes := #[(.object "jdk/internal/misc/Unsafe"), .boolean, .int, .int, .int, .int, .int, .int, .int, .int, .int, .int, .int, .int, .int, .int, .int, .int, .int, (.object "jdk/internal/access/JavaLangAccess"), .int]
  resolved := Array.replicate 378 none
  statics := none }

/-- the primitive byte -/
def k35 : Class := { plain "byte" none with kind := .primitive 'B', accessFlags := 0x411 }
/-- [B -/
def k36 : Class := { plain "[B" (some 0) with kind := .array 35 .byte, interfaces := #[21, 2], accessFlags := 1041 }

/-- the primitive int -/
def k37 : Class := { plain "int" none with kind := .primitive 'I', accessFlags := 0x411 }
/-- [I -/
def k38 : Class := { plain "[I" (some 0) with kind := .array 37 .int, interfaces := #[21, 2], accessFlags := 1041 }

/-- the primitive long -/
def k39 : Class := { plain "long" none with kind := .primitive 'J', accessFlags := 0x411 }
/-- [J -/
def k40 : Class := { plain "[J" (some 0) with kind := .array 39 .long, interfaces := #[21, 2], accessFlags := 1041 }

/-- [Ljava/lang/Object; -/
def k41 : Class := { plain "[Ljava/lang/Object;" (some 0) with kind := .array 0 (.object "java/lang/Object"), interfaces := #[21, 2], accessFlags := 1041 }

/-- [Lshadowsift/core/ValueSet; -/
def k42 : Class := { plain "[Lshadowsift/core/ValueSet;" (some 0) with kind := .array 9 (.object "shadowsift/core/ValueSet"), interfaces := #[21, 2], accessFlags := 1041 }

def classes0 : Array Class := #[k0, k1, k2, k3, k4, k5, k6, k7, k8, k9, k10, k11, k12, k13, k14, k15, k16, k17, k18, k19, k20, k21, k22, k23, k24, k25, k26, k27, k28, k29, k30, k31, k32, k33, k34, k35, k36, k37, k38, k39, k40, k41, k42]
/-- the class that the rule has made for the site at 36 of shadowsift/iptables/Condition.exclude -/
def k43 : Class := Jvm.LamKit.madeRec { classes := classes0 } "shadowsift/iptables/Condition" (Jvm.Lambda.Shape.mk "java/util/function/Consumer" "accept" (Jvm.ClassFile.MethodDescriptor.mk ([(Jvm.ClassFile.FieldType.object "java/lang/Object")] : List Jvm.ClassFile.FieldType) (Option.none : Option Jvm.ClassFile.FieldType)) ([(Jvm.ClassFile.FieldType.object "shadowsift/iptables/Condition"), Jvm.ClassFile.FieldType.int] : List Jvm.ClassFile.FieldType) (5 : Nat) "shadowsift/iptables/Condition" "lambda$exclude$1" (Jvm.ClassFile.MethodDescriptor.mk ([Jvm.ClassFile.FieldType.int, (Jvm.ClassFile.FieldType.object "shadowsift/core/ValueSet")] : List Jvm.ClassFile.FieldType) (Option.none : Option Jvm.ClassFile.FieldType)) false (Jvm.ClassFile.MethodDescriptor.mk ([(Jvm.ClassFile.FieldType.object "shadowsift/core/ValueSet")] : List Jvm.ClassFile.FieldType) (Option.none : Option Jvm.ClassFile.FieldType))) 43

/-- the class that the rule has made for the site at 44 of shadowsift/iptables/Condition.require -/
def k44 : Class := Jvm.LamKit.madeRec { classes := classes0 } "shadowsift/iptables/Condition" (Jvm.Lambda.Shape.mk "java/util/function/Consumer" "accept" (Jvm.ClassFile.MethodDescriptor.mk ([(Jvm.ClassFile.FieldType.object "java/lang/Object")] : List Jvm.ClassFile.FieldType) (Option.none : Option Jvm.ClassFile.FieldType)) ([(Jvm.ClassFile.FieldType.object "shadowsift/iptables/Condition"), Jvm.ClassFile.FieldType.int] : List Jvm.ClassFile.FieldType) (5 : Nat) "shadowsift/iptables/Condition" "lambda$require$0" (Jvm.ClassFile.MethodDescriptor.mk ([Jvm.ClassFile.FieldType.int, (Jvm.ClassFile.FieldType.object "shadowsift/core/ValueSet")] : List Jvm.ClassFile.FieldType) (Option.none : Option Jvm.ClassFile.FieldType)) false (Jvm.ClassFile.MethodDescriptor.mk ([(Jvm.ClassFile.FieldType.object "shadowsift/core/ValueSet")] : List Jvm.ClassFile.FieldType) (Option.none : Option Jvm.ClassFile.FieldType))) 44

def heap : Heap := #[{ cls := 7, slots := #[.long 0, .int 1, .null, .int 0, .null, .int 0, .int 0], vm := .statics 7 },
  { cls := 10, slots := #[.ref 6], vm := .statics 10 },
  { cls := 22, slots := #[.long 0, .int 0, .ref 20, .ref 21], vm := .statics 22 },
  { cls := 29, slots := #[.ref 19], vm := .statics 29 },
  { cls := 33, slots := #[.null, .null, .null], vm := .statics 33 },
  { cls := 41, slots := #[.ref 7, .ref 8, .ref 9, .ref 10, .ref 11, .ref 12, .ref 13, .ref 14, .ref 15, .ref 16, .ref 17, .ref 18], vm := .none },
  { cls := 19, slots := #[.ref 5, .int 0], vm := .none },
  { cls := 24, slots := #[.null, .long 0, .long 4294967295, .int 0], vm := .none },
  { cls := 24, slots := #[.null, .long 0, .long 4294967295, .int 0], vm := .none },
  { cls := 24, slots := #[.null, .long 0, .long 255, .int 0], vm := .none },
  { cls := 24, slots := #[.null, .long 0, .long 0, .int 0], vm := .none },
  { cls := 24, slots := #[.null, .long 0, .long 0, .int 0], vm := .none },
  { cls := 24, slots := #[.null, .long 0, .long 1, .int 0], vm := .none },
  { cls := 24, slots := #[.null, .long 0, .long 65535, .int 0], vm := .none },
  { cls := 24, slots := #[.null, .long 0, .long 65535, .int 0], vm := .none },
  { cls := 24, slots := #[.null, .long 0, .long 65535, .int 0], vm := .none },
  { cls := 24, slots := #[.null, .long 0, .long 4, .int 0], vm := .none },
  { cls := 24, slots := #[.null, .long 0, .long 63, .int 0], vm := .none },
  { cls := 24, slots := #[.null, .long 0, .long 281474976710656, .int 0], vm := .none },
  { cls := 29, slots := #[.null], vm := .none },
  { cls := 41, slots := #[], vm := .none },
  { cls := 41, slots := #[], vm := .none }]
def classes : Array Class := #[k0, k1, k2, k3, k4, k5, k6, k7, k8, k9, k10, k11, k12, k13, k14, k15, k16, k17, k18, k19, k20, k21, k22, k23, k24, k25, k26, k27, k28, k29, k30, k31, k32, k33, k34, k35, k36, k37, k38, k39, k40, k41, k42, k43, k44]
def interned : List (Array UInt16 × Addr) := []
def slotsUsed : Nat := 79
def theMethod : MethodId := ⟨1, 1⟩
def args0 : Array Value := #[.int 5, .int 5, .long 5, .long 6]
def aboutOver (below : List Frame) : State where
  vm := { classes := classes, interned := interned.toArray }
  heap := heap
  slotsUsed := slotsUsed
  threads := #[{ frames := .invoking theMethod args0 :: below }]
def below0 : List Frame := [.native { method := ⟨0, 0⟩, args := #[] }]
def about1 : State := aboutOver below0
def p0 : Program := .bare "" "" ""
def e0 : Env := launch0.env 0 0 0
theorem w_frames : about1.frames = Frame.invoking theMethod args0 :: below0 := rfl
set_option maxRecDepth 65536 in
theorem w_args : argsFit about1.vm theMethod args0 = true := by decide +kernel
set_option maxRecDepth 65536 in
theorem w_heap : heapFits about1 = true := by decide +kernel
set_option maxRecDepth 65536 in
theorem w_runnable : about1.curStatus? = some .runnable := by decide +kernel
set_option maxRecDepth 65536 in
theorem w_alone : about1.alone = true := by decide +kernel
set_option maxRecDepth 65536 in
theorem w_named : about1.methodNamed? x = some theMethod := by decide +kernel
set_option maxRecDepth 65536 in
theorem w_hears : about1.hears theMethod below0 = true := by decide +kernel
set_option maxRecDepth 65536 in
theorem w_ripe : about1.ripe theMethod args0 below0 = true := by decide +kernel
theorem w_running : about1.status = .running := rfl
set_option maxRecDepth 65536 in
theorem w_room : about1.hasRoom e0.platform room_1 = true :=
  launch0.hasRoom_least _ room_1 (by decide +kernel) (by decide +kernel) (by decide +kernel) (by decide +kernel) (by decide +kernel) (by decide +kernel)
theorem allAtoms_all (ts : List Jvm.Cond) (a : Array Jvm.Value) (st : Jvm.State) : (allAtoms ts).before a st = ts.all (fun c => c.before a st) := by
  induction ts with
  | nil => rfl
  | cons c t ih =>
    show (Jvm.Cond.and c (allAtoms t)).before a st = _
    rw [Jvm.Cond.before_and, ih, List.all_cons]
def words1 : List Jvm.Cond := Jvm.Cond.code x code maxLocals ret :: tables_1
/-- a 'code' word, met by the world's own term for the bytes: nothing is compared byte by byte -/
theorem code_word {y : MethodName} {bytes : ByteArray} {mx : Nat} {rt : Option FieldType} {a : Array Value} {s : State} {m : MethodId} {meth : Method} {c : Code} (h1 : s.methodNamed? y = some m) (h2 : s.vm.method? m = some meth) (h3 : meth.code = some c) (h4 : c.code = bytes)
    (h5 : (c.maxLocals == mx && c.exceptionTable.isEmpty && decide (c.maxStack ≤ mostOperands) && decide (meth.sig.returnType = rt) && !meth.locks && decide (parseMethodDescriptor y.desc = some meth.sig)) = true) : (Jvm.Cond.code y bytes mx rt).before a s = true := by
  simp only [Bool.and_eq_true, beq_iff_eq, Bool.not_eq_true', decide_eq_true_eq] at h5
  obtain ⟨⟨⟨⟨⟨g1, g2⟩, g3⟩, g4⟩, g5⟩, g6⟩ := h5
  simp [Cond.before, Cond.holds, Cond.value, h1, h2, h3, h4, g1, g2, g3, g4, g5, g6]
def isCode : Jvm.Cond → Bool
  | .code _ _ _ _ => true
  | _ => false
theorem all_split {L : List Jvm.Cond} {P : Jvm.Cond → Bool} (h1 : L.all (fun c => isCode c || P c) = true) (h2 : ∀ c ∈ L.filter isCode, P c = true) : L.all P = true := by
  refine List.all_eq_true.mpr fun c hc => ?_
  have h := List.all_eq_true.mp h1 c hc
  rcases Bool.eq_false_or_eq_true (isCode c) with hi | hi
  · exact h2 c (List.mem_filter.mpr ⟨hc, hi⟩)
  · simpa [hi] using h
set_option maxRecDepth 65536 in
theorem w_c0 : (Jvm.Cond.code x code maxLocals ret).before args0 about1 = true := code_word (m := ⟨1, 1⟩) (meth := k1m1) (c := k1c1) (by decide +kernel) rfl rfl rfl (by decide +kernel)
set_option maxRecDepth 65536 in
theorem w_c1 : (Jvm.Cond.code ({ cls := "java/lang/String", name := "valueOf", desc := "(C)Ljava/lang/String;" } : Jvm.MethodName) jdk_42_method_139_code (1 : Nat) (Option.some (Jvm.ClassFile.FieldType.object "java/lang/String"))).before args0 about1 = true := code_word (m := ⟨7, 1⟩) (meth := k7m1) (c := k7c1) (by decide +kernel) rfl rfl rfl (by decide +kernel)
set_option maxRecDepth 65536 in
theorem w_c2 : (Jvm.Cond.code ({ cls := "java/lang/StringLatin1", name := "canEncode", desc := "(C)Z" } : Jvm.MethodName) jdk_43_method_3_code (1 : Nat) (Option.some Jvm.ClassFile.FieldType.boolean)).before args0 about1 = true := code_word (m := ⟨8, 1⟩) (meth := k8m1) (c := k8c1) (by decide +kernel) rfl rfl rfl (by decide +kernel)
set_option maxRecDepth 65536 in
theorem w_c3 : (Jvm.Cond.code ({ cls := "java/lang/StringLatin1", name := "toBytes", desc := "(C)[B" } : Jvm.MethodName) jdk_43_method_46_code (1 : Nat) (Option.some (Jvm.ClassFile.FieldType.array Jvm.ClassFile.FieldType.byte))).before args0 about1 = true := code_word (m := ⟨8, 2⟩) (meth := k8m2) (c := k8c2) (by decide +kernel) rfl rfl rfl (by decide +kernel)
set_option maxRecDepth 65536 in
theorem w_c4 : (Jvm.Cond.code ({ cls := "java/lang/String", name := "<init>", desc := "([BB)V" } : Jvm.MethodName) jdk_42_method_151_code (3 : Nat) (Option.none : Option Jvm.ClassFile.FieldType)).before args0 about1 = true := code_word (m := ⟨7, 2⟩) (meth := k7m2) (c := k7c2) (by decide +kernel) rfl rfl rfl (by decide +kernel)
set_option maxRecDepth 65536 in
theorem w_c5 : (Jvm.Cond.code ({ cls := "java/lang/Object", name := "<init>", desc := "()V" } : Jvm.MethodName) object_method_1_code (1 : Nat) (Option.none : Option Jvm.ClassFile.FieldType)).before args0 about1 = true := code_word (m := ⟨0, 0⟩) (meth := k0m0) (c := k0c0) (by decide +kernel) rfl rfl rfl (by decide +kernel)
set_option maxRecDepth 65536 in
theorem w_c6 : (Jvm.Cond.code ({ cls := "shadowsift/core/ValueSet", name := "range", desc := "(JJ)Lshadowsift/core/ValueSet;" } : Jvm.MethodName) prog_63_method_2_code (4 : Nat) (Option.some (Jvm.ClassFile.FieldType.object "shadowsift/core/ValueSet"))).before args0 about1 = true := code_word (m := ⟨9, 1⟩) (meth := k9m1) (c := k9c1) (by decide +kernel) rfl rfl rfl (by decide +kernel)
set_option maxRecDepth 65536 in
theorem w_c7 : (Jvm.Cond.code ({ cls := "shadowsift/core/ValueSet", name := "<init>", desc := "([J[J)V" } : Jvm.MethodName) prog_63_method_1_code (3 : Nat) (Option.none : Option Jvm.ClassFile.FieldType)).before args0 about1 = true := code_word (m := ⟨9, 0⟩) (meth := k9m0) (c := k9c0) (by decide +kernel) rfl rfl rfl (by decide +kernel)
set_option maxRecDepth 65536 in
theorem w_c8 : (Jvm.Cond.code ({ cls := "shadowsift/iptables/Condition", name := "<init>", desc := "()V" } : Jvm.MethodName) prog_66_method_1_code (1 : Nat) (Option.none : Option Jvm.ClassFile.FieldType)).before args0 about1 = true := code_word (m := ⟨10, 0⟩) (meth := k10m0) (c := k10c0) (by decide +kernel) rfl rfl rfl (by decide +kernel)
set_option maxRecDepth 65536 in
theorem w_c9 : (Jvm.Cond.code ({ cls := "java/util/ImmutableCollections$ListN", name := "size", desc := "()I" } : Jvm.MethodName) jdk_45_method_3_code (1 : Nat) (Option.some Jvm.ClassFile.FieldType.int)).before args0 about1 = true := code_word (m := ⟨19, 0⟩) (meth := k19m0) (c := k19c0) (by decide +kernel) rfl rfl rfl (by decide +kernel)
set_option maxRecDepth 65536 in
theorem w_c10 : (Jvm.Cond.code ({ cls := "java/util/ArrayList", name := "<init>", desc := "()V" } : Jvm.MethodName) jdk_38_method_2_code (1 : Nat) (Option.none : Option Jvm.ClassFile.FieldType)).before args0 about1 = true := code_word (m := ⟨22, 0⟩) (meth := k22m0) (c := k22c0) (by decide +kernel) rfl rfl rfl (by decide +kernel)
set_option maxRecDepth 65536 in
theorem w_c11 : (Jvm.Cond.code ({ cls := "java/util/AbstractList", name := "<init>", desc := "()V" } : Jvm.MethodName) jdk_39_method_1_code (1 : Nat) (Option.none : Option Jvm.ClassFile.FieldType)).before args0 about1 = true := code_word (m := ⟨20, 0⟩) (meth := k20m0) (c := k20c0) (by decide +kernel) rfl rfl rfl (by decide +kernel)
set_option maxRecDepth 65536 in
theorem w_c12 : (Jvm.Cond.code ({ cls := "java/util/AbstractCollection", name := "<init>", desc := "()V" } : Jvm.MethodName) jdk_22_method_1_code (1 : Nat) (Option.none : Option Jvm.ClassFile.FieldType)).before args0 about1 = true := code_word (m := ⟨15, 0⟩) (meth := k15m0) (c := k15c0) (by decide +kernel) rfl rfl rfl (by decide +kernel)
set_option maxRecDepth 65536 in
theorem w_c13 : (Jvm.Cond.code ({ cls := "shadowsift/iptables/Condition", name := "exact", desc := "()Z" } : Jvm.MethodName) prog_66_method_4_code (1 : Nat) (Option.some Jvm.ClassFile.FieldType.boolean)).before args0 about1 = true := code_word (m := ⟨10, 3⟩) (meth := k10m3) (c := k10c3) (by decide +kernel) rfl rfl rfl (by decide +kernel)
set_option maxRecDepth 65536 in
theorem w_c14 : (Jvm.Cond.code ({ cls := "shadowsift/iptables/Condition", name := "exclude", desc := "(ILshadowsift/core/ValueSet;)V" } : Jvm.MethodName) prog_66_method_6_code (4 : Nat) (Option.none : Option Jvm.ClassFile.FieldType)).before args0 about1 = true := code_word (m := ⟨10, 5⟩) (meth := k10m5) (c := k10c5) (by decide +kernel) rfl rfl rfl (by decide +kernel)
set_option maxRecDepth 65536 in
theorem w_c15 : (Jvm.Cond.code ({ cls := "java/util/ImmutableCollections$ListN", name := "get", desc := "(I)Ljava/lang/Object;" } : Jvm.MethodName) jdk_45_method_4_code (2 : Nat) (Option.some (Jvm.ClassFile.FieldType.object "java/lang/Object"))).before args0 about1 = true := code_word (m := ⟨19, 1⟩) (meth := k19m1) (c := k19c1) (by decide +kernel) rfl rfl rfl (by decide +kernel)
set_option maxRecDepth 65536 in
theorem w_c16 : (Jvm.Cond.code ({ cls := "shadowsift/core/Field", name := "domain", desc := "()Lshadowsift/core/ValueSet;" } : Jvm.MethodName) prog_42_method_4_code (1 : Nat) (Option.some (Jvm.ClassFile.FieldType.object "shadowsift/core/ValueSet"))).before args0 about1 = true := code_word (m := ⟨24, 0⟩) (meth := k24m0) (c := k24c0) (by decide +kernel) rfl rfl rfl (by decide +kernel)
set_option maxRecDepth 65536 in
theorem w_c17 : (Jvm.Cond.code ({ cls := "shadowsift/core/ValueSet", name := "without", desc := "(Lshadowsift/core/ValueSet;)Ljava/util/Optional;" } : Jvm.MethodName) prog_63_method_5_code (8 : Nat) (Option.some (Jvm.ClassFile.FieldType.object "java/util/Optional"))).before args0 about1 = true := code_word (m := ⟨9, 3⟩) (meth := k9m3) (c := k9c3) (by decide +kernel) rfl rfl rfl (by decide +kernel)
set_option maxRecDepth 65536 in
theorem w_c18 : (Jvm.Cond.code ({ cls := "shadowsift/core/ValueSet$Builder", name := "<init>", desc := "(I)V" } : Jvm.MethodName) prog_64_method_1_code (2 : Nat) (Option.none : Option Jvm.ClassFile.FieldType)).before args0 about1 = true := code_word (m := ⟨25, 0⟩) (meth := k25m0) (c := k25c0) (by decide +kernel) rfl rfl rfl (by decide +kernel)
set_option maxRecDepth 65536 in
theorem w_c19 : (Jvm.Cond.code ({ cls := "shadowsift/core/ValueSet$Builder", name := "add", desc := "(JJ)V" } : Jvm.MethodName) prog_64_method_2_code (5 : Nat) (Option.none : Option Jvm.ClassFile.FieldType)).before args0 about1 = true := code_word (m := ⟨25, 1⟩) (meth := k25m1) (c := k25c1) (by decide +kernel) rfl rfl rfl (by decide +kernel)
set_option maxRecDepth 65536 in
theorem w_c20 : (Jvm.Cond.code ({ cls := "shadowsift/core/ValueSet$Builder", name := "set", desc := "()Ljava/util/Optional;" } : Jvm.MethodName) prog_64_method_3_code (1 : Nat) (Option.some (Jvm.ClassFile.FieldType.object "java/util/Optional"))).before args0 about1 = true := code_word (m := ⟨25, 2⟩) (meth := k25m2) (c := k25c2) (by decide +kernel) rfl rfl rfl (by decide +kernel)
set_option maxRecDepth 65536 in
theorem w_c21 : (Jvm.Cond.code ({ cls := "java/util/Arrays", name := "copyOf", desc := "([JI)[J" } : Jvm.MethodName) jdk_65_method_124_code (3 : Nat) (Option.some (Jvm.ClassFile.FieldType.array Jvm.ClassFile.FieldType.long))).before args0 about1 = true := code_word (m := ⟨26, 1⟩) (meth := k26m1) (c := k26c1) (by decide +kernel) rfl rfl rfl (by decide +kernel)
set_option maxRecDepth 65536 in
theorem w_c22 : (Jvm.Cond.code ({ cls := "java/lang/Math", name := "min", desc := "(II)I" } : Jvm.MethodName) jdk_29_method_69_code (2 : Nat) (Option.some Jvm.ClassFile.FieldType.int)).before args0 about1 = true := code_word (m := ⟨27, 3⟩) (meth := k27m3) (c := k27c3) (by decide +kernel) rfl rfl rfl (by decide +kernel)
set_option maxRecDepth 65536 in
theorem w_c23 : (Jvm.Cond.code ({ cls := "java/util/Optional", name := "of", desc := "(Ljava/lang/Object;)Ljava/util/Optional;" } : Jvm.MethodName) jdk_32_method_3_code (1 : Nat) (Option.some (Jvm.ClassFile.FieldType.object "java/util/Optional"))).before args0 about1 = true := code_word (m := ⟨29, 2⟩) (meth := k29m2) (c := k29c2) (by decide +kernel) rfl rfl rfl (by decide +kernel)
set_option maxRecDepth 65536 in
theorem w_c24 : (Jvm.Cond.code ({ cls := "java/util/Objects", name := "requireNonNull", desc := "(Ljava/lang/Object;)Ljava/lang/Object;" } : Jvm.MethodName) jdk_31_method_10_code (1 : Nat) (Option.some (Jvm.ClassFile.FieldType.object "java/lang/Object"))).before args0 about1 = true := code_word (m := ⟨30, 1⟩) (meth := k30m1) (c := k30c1) (by decide +kernel) rfl rfl rfl (by decide +kernel)
set_option maxRecDepth 65536 in
theorem w_c25 : (Jvm.Cond.code ({ cls := "java/util/Optional", name := "<init>", desc := "(Ljava/lang/Object;)V" } : Jvm.MethodName) jdk_32_method_2_code (2 : Nat) (Option.none : Option Jvm.ClassFile.FieldType)).before args0 about1 = true := code_word (m := ⟨29, 1⟩) (meth := k29m1) (c := k29c1) (by decide +kernel) rfl rfl rfl (by decide +kernel)
set_option maxRecDepth 65536 in
theorem w_c26 : (Jvm.Cond.code ({ cls := "java/util/Optional", name := "isEmpty", desc := "()Z" } : Jvm.MethodName) jdk_32_method_7_code (1 : Nat) (Option.some Jvm.ClassFile.FieldType.boolean)).before args0 about1 = true := code_word (m := ⟨29, 3⟩) (meth := k29m3) (c := k29c3) (by decide +kernel) rfl rfl rfl (by decide +kernel)
set_option maxRecDepth 65536 in
theorem w_c27 : (Jvm.Cond.code ({ cls := "java/util/Optional", name := "ifPresent", desc := "(Ljava/util/function/Consumer;)V" } : Jvm.MethodName) jdk_32_method_8_code (2 : Nat) (Option.none : Option Jvm.ClassFile.FieldType)).before args0 about1 = true := code_word (m := ⟨29, 4⟩) (meth := k29m4) (c := k29c4) (by decide +kernel) rfl rfl rfl (by decide +kernel)
set_option maxRecDepth 65536 in
theorem w_c28 : (Jvm.Cond.code ({ cls := "shadowsift/iptables/Condition", name := "lambda$exclude$1", desc := "(ILshadowsift/core/ValueSet;)V" } : Jvm.MethodName) prog_66_method_13_code (3 : Nat) (Option.none : Option Jvm.ClassFile.FieldType)).before args0 about1 = true := code_word (m := ⟨10, 8⟩) (meth := k10m8) (c := k10c8) (by decide +kernel) rfl rfl rfl (by decide +kernel)
set_option maxRecDepth 65536 in
theorem w_c29 : (Jvm.Cond.code ({ cls := "shadowsift/iptables/Condition", name := "require", desc := "(ILshadowsift/core/ValueSet;)V" } : Jvm.MethodName) prog_66_method_2_code (4 : Nat) (Option.none : Option Jvm.ClassFile.FieldType)).before args0 about1 = true := code_word (m := ⟨10, 1⟩) (meth := k10m1) (c := k10c1) (by decide +kernel) rfl rfl rfl (by decide +kernel)
set_option maxRecDepth 65536 in
theorem w_c30 : (Jvm.Cond.code ({ cls := "shadowsift/iptables/Condition", name := "requireEitherPort", desc := "(Lshadowsift/core/ValueSet;)V" } : Jvm.MethodName) prog_66_method_8_code (2 : Nat) (Option.none : Option Jvm.ClassFile.FieldType)).before args0 about1 = true := code_word (m := ⟨10, 7⟩) (meth := k10m7) (c := k10c7) (by decide +kernel) rfl rfl rfl (by decide +kernel)
set_option maxRecDepth 65536 in
theorem w_c31 : (Jvm.Cond.code ({ cls := "java/util/ArrayList", name := "add", desc := "(Ljava/lang/Object;)Z" } : Jvm.MethodName) jdk_38_method_25_code (2 : Nat) (Option.some Jvm.ClassFile.FieldType.boolean)).before args0 about1 = true := code_word (m := ⟨22, 4⟩) (meth := k22m4) (c := k22c4) (by decide +kernel) rfl rfl rfl (by decide +kernel)
set_option maxRecDepth 65536 in
theorem w_c32 : (Jvm.Cond.code ({ cls := "java/util/ArrayList", name := "add", desc := "(Ljava/lang/Object;[Ljava/lang/Object;I)V" } : Jvm.MethodName) jdk_38_method_24_code (4 : Nat) (Option.none : Option Jvm.ClassFile.FieldType)).before args0 about1 = true := code_word (m := ⟨22, 3⟩) (meth := k22m3) (c := k22c3) (by decide +kernel) rfl rfl rfl (by decide +kernel)
set_option maxRecDepth 65536 in
theorem w_c33 : (Jvm.Cond.code ({ cls := "java/util/ArrayList", name := "grow", desc := "()[Ljava/lang/Object;" } : Jvm.MethodName) jdk_38_method_7_code (1 : Nat) (Option.some (Jvm.ClassFile.FieldType.array (Jvm.ClassFile.FieldType.object "java/lang/Object")))).before args0 about1 = true := code_word (m := ⟨22, 2⟩) (meth := k22m2) (c := k22c2) (by decide +kernel) rfl rfl rfl (by decide +kernel)
set_option maxRecDepth 65536 in
theorem w_c34 : (Jvm.Cond.code ({ cls := "java/util/ArrayList", name := "grow", desc := "(I)[Ljava/lang/Object;" } : Jvm.MethodName) jdk_38_method_6_code (4 : Nat) (Option.some (Jvm.ClassFile.FieldType.array (Jvm.ClassFile.FieldType.object "java/lang/Object")))).before args0 about1 = true := code_word (m := ⟨22, 1⟩) (meth := k22m1) (c := k22c1) (by decide +kernel) rfl rfl rfl (by decide +kernel)
set_option maxRecDepth 65536 in
theorem w_c35 : (Jvm.Cond.code ({ cls := "java/lang/Math", name := "max", desc := "(II)I" } : Jvm.MethodName) jdk_29_method_65_code (2 : Nat) (Option.some Jvm.ClassFile.FieldType.int)).before args0 about1 = true := code_word (m := ⟨27, 1⟩) (meth := k27m1) (c := k27c1) (by decide +kernel) rfl rfl rfl (by decide +kernel)
set_option maxRecDepth 65536 in
theorem w_c36 : (Jvm.Cond.code ({ cls := "shadowsift/core/ValueSet", name := "intersection", desc := "(Lshadowsift/core/ValueSet;)Ljava/util/Optional;" } : Jvm.MethodName) prog_63_method_4_code (5 : Nat) (Option.some (Jvm.ClassFile.FieldType.object "java/util/Optional"))).before args0 about1 = true := code_word (m := ⟨9, 2⟩) (meth := k9m2) (c := k9c2) (by decide +kernel) rfl rfl rfl (by decide +kernel)
set_option maxRecDepth 65536 in
theorem w_c37 : (Jvm.Cond.code ({ cls := "java/lang/Math", name := "max", desc := "(JJ)J" } : Jvm.MethodName) jdk_29_method_66_code (4 : Nat) (Option.some Jvm.ClassFile.FieldType.long)).before args0 about1 = true := code_word (m := ⟨27, 2⟩) (meth := k27m2) (c := k27c2) (by decide +kernel) rfl rfl rfl (by decide +kernel)
set_option maxRecDepth 65536 in
theorem w_c38 : (Jvm.Cond.code ({ cls := "java/lang/Math", name := "min", desc := "(JJ)J" } : Jvm.MethodName) jdk_29_method_70_code (4 : Nat) (Option.some Jvm.ClassFile.FieldType.long)).before args0 about1 = true := code_word (m := ⟨27, 4⟩) (meth := k27m4) (c := k27c4) (by decide +kernel) rfl rfl rfl (by decide +kernel)
set_option maxRecDepth 65536 in
theorem w_c39 : (Jvm.Cond.code ({ cls := "java/util/Optional", name := "empty", desc := "()Ljava/util/Optional;" } : Jvm.MethodName) jdk_32_method_1_code (1 : Nat) (Option.some (Jvm.ClassFile.FieldType.object "java/util/Optional"))).before args0 about1 = true := code_word (m := ⟨29, 0⟩) (meth := k29m0) (c := k29c0) (by decide +kernel) rfl rfl rfl (by decide +kernel)
set_option maxRecDepth 65536 in
theorem w_c40 : (Jvm.Cond.code ({ cls := "shadowsift/iptables/Condition", name := "requireInterface", desc := "(ILjava/lang/String;Z)V" } : Jvm.MethodName) prog_66_method_7_code (4 : Nat) (Option.none : Option Jvm.ClassFile.FieldType)).before args0 about1 = true := code_word (m := ⟨10, 6⟩) (meth := k10m6) (c := k10c6) (by decide +kernel) rfl rfl rfl (by decide +kernel)
set_option maxRecDepth 65536 in
theorem w_c41 : (Jvm.Cond.code ({ cls := "shadowsift/iptables/Condition$InterfaceTest", name := "<init>", desc := "(ILjava/lang/String;Z)V" } : Jvm.MethodName) prog_67_method_1_code (4 : Nat) (Option.none : Option Jvm.ClassFile.FieldType)).before args0 about1 = true := code_word (m := ⟨32, 0⟩) (meth := k32m0) (c := k32c0) (by decide +kernel) rfl rfl rfl (by decide +kernel)
set_option maxRecDepth 65536 in
theorem w_c42 : (Jvm.Cond.code ({ cls := "java/lang/Record", name := "<init>", desc := "()V" } : Jvm.MethodName) jdk_30_method_1_code (1 : Nat) (Option.none : Option Jvm.ClassFile.FieldType)).before args0 about1 = true := code_word (m := ⟨23, 0⟩) (meth := k23m0) (c := k23c0) (by decide +kernel) rfl rfl rfl (by decide +kernel)
set_option maxRecDepth 65536 in
theorem w_c43 : (Jvm.Cond.code ({ cls := "shadowsift/iptables/Condition", name := "requireUnmodelled", desc := "()V" } : Jvm.MethodName) prog_66_method_3_code (1 : Nat) (Option.none : Option Jvm.ClassFile.FieldType)).before args0 about1 = true := code_word (m := ⟨10, 2⟩) (meth := k10m2) (c := k10c2) (by decide +kernel) rfl rfl rfl (by decide +kernel)
set_option maxRecDepth 65536 in
theorem w_c44 : (Jvm.Cond.code ({ cls := "shadowsift/iptables/Condition", name := "requireNothing", desc := "()V" } : Jvm.MethodName) prog_66_method_5_code (1 : Nat) (Option.none : Option Jvm.ClassFile.FieldType)).before args0 about1 = true := code_word (m := ⟨10, 4⟩) (meth := k10m4) (c := k10c4) (by decide +kernel) rfl rfl rfl (by decide +kernel)
set_option maxRecDepth 65536 in
theorem w_c45 : (Jvm.Cond.code ({ cls := "shadowsift/iptables/Condition", name := "lambda$require$0", desc := "(ILshadowsift/core/ValueSet;)V" } : Jvm.MethodName) prog_66_method_14_code (3 : Nat) (Option.none : Option Jvm.ClassFile.FieldType)).before args0 about1 = true := code_word (m := ⟨10, 9⟩) (meth := k10m9) (c := k10c9) (by decide +kernel) rfl rfl rfl (by decide +kernel)
def codes1 : List Jvm.Cond := [Jvm.Cond.code x code maxLocals ret, Jvm.Cond.code ({ cls := "java/lang/String", name := "valueOf", desc := "(C)Ljava/lang/String;" } : Jvm.MethodName) jdk_42_method_139_code (1 : Nat) (Option.some (Jvm.ClassFile.FieldType.object "java/lang/String")), Jvm.Cond.code ({ cls := "java/lang/StringLatin1", name := "canEncode", desc := "(C)Z" } : Jvm.MethodName) jdk_43_method_3_code (1 : Nat) (Option.some Jvm.ClassFile.FieldType.boolean), Jvm.Cond.code ({ cls := "java/lang/StringLatin1", name := "toBytes", desc := "(C)[B" } : Jvm.MethodName) jdk_43_method_46_code (1 : Nat) (Option.some (Jvm.ClassFile.FieldType.array Jvm.ClassFile.FieldType.byte)), Jvm.Cond.code ({ cls := "java/lang/String", name := "<init>", desc := "([BB)V" } : Jvm.MethodName) jdk_42_method_151_code (3 : Nat) (Option.none : Option Jvm.ClassFile.FieldType), Jvm.Cond.code ({ cls := "java/lang/Object", name := "<init>", desc := "()V" } : Jvm.MethodName) object_method_1_code (1 : Nat) (Option.none : Option Jvm.ClassFile.FieldType), Jvm.Cond.code ({ cls := "shadowsift/core/ValueSet", name := "range", desc := "(JJ)Lshadowsift/core/ValueSet;" } : Jvm.MethodName) prog_63_method_2_code (4 : Nat) (Option.some (Jvm.ClassFile.FieldType.object "shadowsift/core/ValueSet")), Jvm.Cond.code ({ cls := "shadowsift/core/ValueSet", name := "<init>", desc := "([J[J)V" } : Jvm.MethodName) prog_63_method_1_code (3 : Nat) (Option.none : Option Jvm.ClassFile.FieldType), Jvm.Cond.code ({ cls := "shadowsift/iptables/Condition", name := "<init>", desc := "()V" } : Jvm.MethodName) prog_66_method_1_code (1 : Nat) (Option.none : Option Jvm.ClassFile.FieldType), Jvm.Cond.code ({ cls := "java/util/ImmutableCollections$ListN", name := "size", desc := "()I" } : Jvm.MethodName) jdk_45_method_3_code (1 : Nat) (Option.some Jvm.ClassFile.FieldType.int), Jvm.Cond.code ({ cls := "java/util/ArrayList", name := "<init>", desc := "()V" } : Jvm.MethodName) jdk_38_method_2_code (1 : Nat) (Option.none : Option Jvm.ClassFile.FieldType), Jvm.Cond.code ({ cls := "java/util/AbstractList", name := "<init>", desc := "()V" } : Jvm.MethodName) jdk_39_method_1_code (1 : Nat) (Option.none : Option Jvm.ClassFile.FieldType), Jvm.Cond.code ({ cls := "java/util/AbstractCollection", name := "<init>", desc := "()V" } : Jvm.MethodName) jdk_22_method_1_code (1 : Nat) (Option.none : Option Jvm.ClassFile.FieldType), Jvm.Cond.code ({ cls := "shadowsift/iptables/Condition", name := "exact", desc := "()Z" } : Jvm.MethodName) prog_66_method_4_code (1 : Nat) (Option.some Jvm.ClassFile.FieldType.boolean), Jvm.Cond.code ({ cls := "shadowsift/iptables/Condition", name := "exclude", desc := "(ILshadowsift/core/ValueSet;)V" } : Jvm.MethodName) prog_66_method_6_code (4 : Nat) (Option.none : Option Jvm.ClassFile.FieldType), Jvm.Cond.code ({ cls := "java/util/ImmutableCollections$ListN", name := "get", desc := "(I)Ljava/lang/Object;" } : Jvm.MethodName) jdk_45_method_4_code (2 : Nat) (Option.some (Jvm.ClassFile.FieldType.object "java/lang/Object")), Jvm.Cond.code ({ cls := "shadowsift/core/Field", name := "domain", desc := "()Lshadowsift/core/ValueSet;" } : Jvm.MethodName) prog_42_method_4_code (1 : Nat) (Option.some (Jvm.ClassFile.FieldType.object "shadowsift/core/ValueSet")), Jvm.Cond.code ({ cls := "shadowsift/core/ValueSet", name := "without", desc := "(Lshadowsift/core/ValueSet;)Ljava/util/Optional;" } : Jvm.MethodName) prog_63_method_5_code (8 : Nat) (Option.some (Jvm.ClassFile.FieldType.object "java/util/Optional")), Jvm.Cond.code ({ cls := "shadowsift/core/ValueSet$Builder", name := "<init>", desc := "(I)V" } : Jvm.MethodName) prog_64_method_1_code (2 : Nat) (Option.none : Option Jvm.ClassFile.FieldType), Jvm.Cond.code ({ cls := "shadowsift/core/ValueSet$Builder", name := "add", desc := "(JJ)V" } : Jvm.MethodName) prog_64_method_2_code (5 : Nat) (Option.none : Option Jvm.ClassFile.FieldType), Jvm.Cond.code ({ cls := "shadowsift/core/ValueSet$Builder", name := "set", desc := "()Ljava/util/Optional;" } : Jvm.MethodName) prog_64_method_3_code (1 : Nat) (Option.some (Jvm.ClassFile.FieldType.object "java/util/Optional")), Jvm.Cond.code ({ cls := "java/util/Arrays", name := "copyOf", desc := "([JI)[J" } : Jvm.MethodName) jdk_65_method_124_code (3 : Nat) (Option.some (Jvm.ClassFile.FieldType.array Jvm.ClassFile.FieldType.long)), Jvm.Cond.code ({ cls := "java/lang/Math", name := "min", desc := "(II)I" } : Jvm.MethodName) jdk_29_method_69_code (2 : Nat) (Option.some Jvm.ClassFile.FieldType.int), Jvm.Cond.code ({ cls := "java/util/Optional", name := "of", desc := "(Ljava/lang/Object;)Ljava/util/Optional;" } : Jvm.MethodName) jdk_32_method_3_code (1 : Nat) (Option.some (Jvm.ClassFile.FieldType.object "java/util/Optional")), Jvm.Cond.code ({ cls := "java/util/Objects", name := "requireNonNull", desc := "(Ljava/lang/Object;)Ljava/lang/Object;" } : Jvm.MethodName) jdk_31_method_10_code (1 : Nat) (Option.some (Jvm.ClassFile.FieldType.object "java/lang/Object")), Jvm.Cond.code ({ cls := "java/util/Optional", name := "<init>", desc := "(Ljava/lang/Object;)V" } : Jvm.MethodName) jdk_32_method_2_code (2 : Nat) (Option.none : Option Jvm.ClassFile.FieldType), Jvm.Cond.code ({ cls := "java/util/Optional", name := "isEmpty", desc := "()Z" } : Jvm.MethodName) jdk_32_method_7_code (1 : Nat) (Option.some Jvm.ClassFile.FieldType.boolean), Jvm.Cond.code ({ cls := "java/util/Optional", name := "ifPresent", desc := "(Ljava/util/function/Consumer;)V" } : Jvm.MethodName) jdk_32_method_8_code (2 : Nat) (Option.none : Option Jvm.ClassFile.FieldType), Jvm.Cond.code ({ cls := "shadowsift/iptables/Condition", name := "lambda$exclude$1", desc := "(ILshadowsift/core/ValueSet;)V" } : Jvm.MethodName) prog_66_method_13_code (3 : Nat) (Option.none : Option Jvm.ClassFile.FieldType), Jvm.Cond.code ({ cls := "shadowsift/iptables/Condition", name := "require", desc := "(ILshadowsift/core/ValueSet;)V" } : Jvm.MethodName) prog_66_method_2_code (4 : Nat) (Option.none : Option Jvm.ClassFile.FieldType), Jvm.Cond.code ({ cls := "shadowsift/iptables/Condition", name := "requireEitherPort", desc := "(Lshadowsift/core/ValueSet;)V" } : Jvm.MethodName) prog_66_method_8_code (2 : Nat) (Option.none : Option Jvm.ClassFile.FieldType), Jvm.Cond.code ({ cls := "java/util/ArrayList", name := "add", desc := "(Ljava/lang/Object;)Z" } : Jvm.MethodName) jdk_38_method_25_code (2 : Nat) (Option.some Jvm.ClassFile.FieldType.boolean), Jvm.Cond.code ({ cls := "java/util/ArrayList", name := "add", desc := "(Ljava/lang/Object;[Ljava/lang/Object;I)V" } : Jvm.MethodName) jdk_38_method_24_code (4 : Nat) (Option.none : Option Jvm.ClassFile.FieldType), Jvm.Cond.code ({ cls := "java/util/ArrayList", name := "grow", desc := "()[Ljava/lang/Object;" } : Jvm.MethodName) jdk_38_method_7_code (1 : Nat) (Option.some (Jvm.ClassFile.FieldType.array (Jvm.ClassFile.FieldType.object "java/lang/Object"))), Jvm.Cond.code ({ cls := "java/util/ArrayList", name := "grow", desc := "(I)[Ljava/lang/Object;" } : Jvm.MethodName) jdk_38_method_6_code (4 : Nat) (Option.some (Jvm.ClassFile.FieldType.array (Jvm.ClassFile.FieldType.object "java/lang/Object"))), Jvm.Cond.code ({ cls := "java/lang/Math", name := "max", desc := "(II)I" } : Jvm.MethodName) jdk_29_method_65_code (2 : Nat) (Option.some Jvm.ClassFile.FieldType.int), Jvm.Cond.code ({ cls := "shadowsift/core/ValueSet", name := "intersection", desc := "(Lshadowsift/core/ValueSet;)Ljava/util/Optional;" } : Jvm.MethodName) prog_63_method_4_code (5 : Nat) (Option.some (Jvm.ClassFile.FieldType.object "java/util/Optional")), Jvm.Cond.code ({ cls := "java/lang/Math", name := "max", desc := "(JJ)J" } : Jvm.MethodName) jdk_29_method_66_code (4 : Nat) (Option.some Jvm.ClassFile.FieldType.long), Jvm.Cond.code ({ cls := "java/lang/Math", name := "min", desc := "(JJ)J" } : Jvm.MethodName) jdk_29_method_70_code (4 : Nat) (Option.some Jvm.ClassFile.FieldType.long), Jvm.Cond.code ({ cls := "java/util/Optional", name := "empty", desc := "()Ljava/util/Optional;" } : Jvm.MethodName) jdk_32_method_1_code (1 : Nat) (Option.some (Jvm.ClassFile.FieldType.object "java/util/Optional")), Jvm.Cond.code ({ cls := "shadowsift/iptables/Condition", name := "requireInterface", desc := "(ILjava/lang/String;Z)V" } : Jvm.MethodName) prog_66_method_7_code (4 : Nat) (Option.none : Option Jvm.ClassFile.FieldType), Jvm.Cond.code ({ cls := "shadowsift/iptables/Condition$InterfaceTest", name := "<init>", desc := "(ILjava/lang/String;Z)V" } : Jvm.MethodName) prog_67_method_1_code (4 : Nat) (Option.none : Option Jvm.ClassFile.FieldType), Jvm.Cond.code ({ cls := "java/lang/Record", name := "<init>", desc := "()V" } : Jvm.MethodName) jdk_30_method_1_code (1 : Nat) (Option.none : Option Jvm.ClassFile.FieldType), Jvm.Cond.code ({ cls := "shadowsift/iptables/Condition", name := "requireUnmodelled", desc := "()V" } : Jvm.MethodName) prog_66_method_3_code (1 : Nat) (Option.none : Option Jvm.ClassFile.FieldType), Jvm.Cond.code ({ cls := "shadowsift/iptables/Condition", name := "requireNothing", desc := "()V" } : Jvm.MethodName) prog_66_method_5_code (1 : Nat) (Option.none : Option Jvm.ClassFile.FieldType), Jvm.Cond.code ({ cls := "shadowsift/iptables/Condition", name := "lambda$require$0", desc := "(ILshadowsift/core/ValueSet;)V" } : Jvm.MethodName) prog_66_method_14_code (3 : Nat) (Option.none : Option Jvm.ClassFile.FieldType)]
set_option maxRecDepth 65536 in
theorem codes_eq : words1.filter isCode = codes1 := rfl
theorem w_codes : ∀ c ∈ words1.filter isCode, c.before args0 about1 = true := by
  rw [codes_eq]
  intro c hc
  simp only [codes1, List.mem_cons, List.not_mem_nil, or_false] at hc
  rcases hc with rfl | rfl | rfl | rfl | rfl | rfl | rfl | rfl | rfl | rfl | rfl | rfl | rfl | rfl | rfl | rfl | rfl | rfl | rfl | rfl | rfl | rfl | rfl | rfl | rfl | rfl | rfl | rfl | rfl | rfl | rfl | rfl | rfl | rfl | rfl | rfl | rfl | rfl | rfl | rfl | rfl | rfl | rfl | rfl | rfl | rfl
  · exact w_c0
  · exact w_c1
  · exact w_c2
  · exact w_c3
  · exact w_c4
  · exact w_c5
  · exact w_c6
  · exact w_c7
  · exact w_c8
  · exact w_c9
  · exact w_c10
  · exact w_c11
  · exact w_c12
  · exact w_c13
  · exact w_c14
  · exact w_c15
  · exact w_c16
  · exact w_c17
  · exact w_c18
  · exact w_c19
  · exact w_c20
  · exact w_c21
  · exact w_c22
  · exact w_c23
  · exact w_c24
  · exact w_c25
  · exact w_c26
  · exact w_c27
  · exact w_c28
  · exact w_c29
  · exact w_c30
  · exact w_c31
  · exact w_c32
  · exact w_c33
  · exact w_c34
  · exact w_c35
  · exact w_c36
  · exact w_c37
  · exact w_c38
  · exact w_c39
  · exact w_c40
  · exact w_c41
  · exact w_c42
  · exact w_c43
  · exact w_c44
  · exact w_c45
set_option maxRecDepth 65536 in
theorem w_t1 : (words1.take 24).all (fun c => isCode c || c.before args0 about1) = true := by decide +kernel
set_option maxRecDepth 65536 in
theorem w_t2 : ((words1.drop 24).take 24).all (fun c => isCode c || c.before args0 about1) = true := by decide +kernel
set_option maxRecDepth 65536 in
theorem w_t3 : (((words1.drop 24).drop 24).take 24).all (fun c => isCode c || c.before args0 about1) = true := by decide +kernel
set_option maxRecDepth 65536 in
theorem w_t4 : ((((words1.drop 24).drop 24).drop 24).take 24).all (fun c => isCode c || c.before args0 about1) = true := by decide +kernel
set_option maxRecDepth 65536 in
theorem w_t5 : (((((words1.drop 24).drop 24).drop 24).drop 24).take 24).all (fun c => isCode c || c.before args0 about1) = true := by decide +kernel
set_option maxRecDepth 65536 in
theorem w_t6 : ((((((words1.drop 24).drop 24).drop 24).drop 24).drop 24).take 24).all (fun c => isCode c || c.before args0 about1) = true := by decide +kernel
set_option maxRecDepth 65536 in
theorem w_t7 : (((((((words1.drop 24).drop 24).drop 24).drop 24).drop 24).drop 24).take 24).all (fun c => isCode c || c.before args0 about1) = true := by decide +kernel
set_option maxRecDepth 65536 in
theorem w_t8 : ((((((((words1.drop 24).drop 24).drop 24).drop 24).drop 24).drop 24).drop 24).take 24).all (fun c => isCode c || c.before args0 about1) = true := by decide +kernel
set_option maxRecDepth 65536 in
theorem w_t9 : (((((((((words1.drop 24).drop 24).drop 24).drop 24).drop 24).drop 24).drop 24).drop 24).take 24).all (fun c => isCode c || c.before args0 about1) = true := by decide +kernel
set_option maxRecDepth 65536 in
theorem w_t10 : ((((((((((words1.drop 24).drop 24).drop 24).drop 24).drop 24).drop 24).drop 24).drop 24).drop 24).take 24).all (fun c => isCode c || c.before args0 about1) = true := by decide +kernel
set_option maxRecDepth 65536 in
theorem w_t11 : (((((((((((words1.drop 24).drop 24).drop 24).drop 24).drop 24).drop 24).drop 24).drop 24).drop 24).drop 24).take 24).all (fun c => isCode c || c.before args0 about1) = true := by decide +kernel
set_option maxRecDepth 65536 in
theorem w_t12 : ((((((((((((words1.drop 24).drop 24).drop 24).drop 24).drop 24).drop 24).drop 24).drop 24).drop 24).drop 24).drop 24).take 24).all (fun c => isCode c || c.before args0 about1) = true := by decide +kernel
set_option maxRecDepth 65536 in
theorem w_t13 : (((((((((((((words1.drop 24).drop 24).drop 24).drop 24).drop 24).drop 24).drop 24).drop 24).drop 24).drop 24).drop 24).drop 24).take 24).all (fun c => isCode c || c.before args0 about1) = true := by decide +kernel
set_option maxRecDepth 65536 in
theorem w_t14 : (((((((((((((words1.drop 24).drop 24).drop 24).drop 24).drop 24).drop 24).drop 24).drop 24).drop 24).drop 24).drop 24).drop 24).drop 24).all (fun c => isCode c || c.before args0 about1) = true := by decide +kernel
theorem w_tables : (allAtoms (Jvm.Cond.code x code maxLocals ret :: tables_1)).before args0 about1 = true := by
  rw [allAtoms_all]
  show words1.all (fun c => c.before args0 about1) = true
  refine all_split ?_ w_codes
  rw [← List.take_append_drop 24 words1, List.all_append, w_t1, ← List.take_append_drop 24 (words1.drop 24), List.all_append, w_t2, ← List.take_append_drop 24 ((words1.drop 24).drop 24), List.all_append, w_t3, ← List.take_append_drop 24 (((words1.drop 24).drop 24).drop 24), List.all_append, w_t4, ← List.take_append_drop 24 ((((words1.drop 24).drop 24).drop 24).drop 24), List.all_append, w_t5, ← List.take_append_drop 24 (((((words1.drop 24).drop 24).drop 24).drop 24).drop 24), List.all_append, w_t6, ← List.take_append_drop 24 ((((((words1.drop 24).drop 24).drop 24).drop 24).drop 24).drop 24), List.all_append, w_t7, ← List.take_append_drop 24 (((((((words1.drop 24).drop 24).drop 24).drop 24).drop 24).drop 24).drop 24), List.all_append, w_t8, ← List.take_append_drop 24 ((((((((words1.drop 24).drop 24).drop 24).drop 24).drop 24).drop 24).drop 24).drop 24), List.all_append, w_t9, ← List.take_append_drop 24 (((((((((words1.drop 24).drop 24).drop 24).drop 24).drop 24).drop 24).drop 24).drop 24).drop 24), List.all_append, w_t10, ← List.take_append_drop 24 ((((((((((words1.drop 24).drop 24).drop 24).drop 24).drop 24).drop 24).drop 24).drop 24).drop 24).drop 24), List.all_append, w_t11, ← List.take_append_drop 24 (((((((((((words1.drop 24).drop 24).drop 24).drop 24).drop 24).drop 24).drop 24).drop 24).drop 24).drop 24).drop 24), List.all_append, w_t12, ← List.take_append_drop 24 ((((((((((((words1.drop 24).drop 24).drop 24).drop 24).drop 24).drop 24).drop 24).drop 24).drop 24).drop 24).drop 24).drop 24), List.all_append, w_t13, w_t14]
  rfl
set_option maxRecDepth 65536 in
theorem w_rest : rest_1_c.before args0 about1 = true := by decide +kernel
set_option maxRecDepth 65536 in
theorem w_case : (Jvm.Cond.and given_1 narrow_1).before args0 about1 = true := by decide +kernel
theorem w_applies : (headSpec (Jvm.Cond.code x code maxLocals ret :: tables_1) room_1).applies x e0.platform about1 = true :=
  (Spec.applies_iff w_frames).mpr ⟨w_running, w_runnable, w_alone, w_named, w_hears, w_ripe, w_room, w_tables⟩
theorem atStart : AtStart classFile x code maxLocals ret World_1 tables_1 room_1 Calls_1 rest_1 Pre_1 launch0 p0 e0 about1 theMethod args0 below0 :=
  ⟨lists_1, trivial, launch0.admits_env _ _ _, launch0.least_env, fairChoices_fair.cas, fairChoices_fair.clock, w_frames, w_args, w_heap, w_applies, trivial, w_rest, w_case⟩
end start1
theorem witness_1 : WitnessClaimed_1 := ⟨start1.p0, start1.e0, start1.about1, start1.theMethod, start1.args0, start1.below0, start1.atStart⟩
end Jvm.Pilot.@@N@@
